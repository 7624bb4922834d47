/-
  DERIVED. GIVEN WITH THE SEED: THE CARDS: each row of Qxb6608650aFmtRows.lean that lists a variable, with what it lists TIED to the program's text (the seventh form; the later family's looks); each row that meets fmt, with fmt's text TOLD by the authors' own Lean function (tested against real Go, not proved from fmt's source: count such statements apart). THE CARD IS WHAT COUNTS. Prove the row's statement (the work); the ties are given (Qxb6608650aFmtTie.lean); close each card by the builder's one call (the guide's Derived/Test/ToyasCard.lean, 'card_holds'). Laid BY PROGRAM, IN A SANDBOX (cutbox-door.mjs). By AI agents, Wed Nov 11 2026. No macro, syntax, notation, axiom, sorry.
-/
import Derived.Test.Qxb6608650aFmtRows
import GoSem.ClaimSeven
namespace Go.Proofs.Qxb6608650aFmt
namespace Rows

/-- THE TOLD AND TIED CARD OF 'zzlaws_root_b1.FnGenerateSnapshotSpec'. -/
def fnGenerateSnapshotSpecCard : Claim7 := { stood := { row := fnGenerateSnapshotSpecRow, standIns := [], harness := (true, "846c54ad297eabb06b2716b0f7d66d3d5302d4e84c7355835e40586e27bf29c3"), looks := false }, told := true, laidByText := true, laidKinds := [.data, .data, .data], laidTests := true, laidLooks := .later, goes := false }
def FnGenerateSnapshotSpecToldSaid : Prop := Claim7.holds Tryf.pinned (.plain (OpenSpec.ofChange fnGenerateSnapshotSpecSpec)) fnGenerateSnapshotSpecCard
/-- ITS FALSE NEIGHBOUR. Refute it at one input. -/
def FnGenerateSnapshotSpecToldWrongFalsely : Prop := Claim7.holds Tryf.pinned (.plain (OpenSpec.ofChange fnGenerateSnapshotSpecWrong)) fnGenerateSnapshotSpecCard

/-- THE TOLD AND TIED CARD OF 'zzlaws_root_b1.FnGenerateSnapshotStreams'. -/
def fnGenerateSnapshotStreamsCard : Claim7 := { stood := { row := fnGenerateSnapshotStreamsRow, standIns := [], harness := (true, "846c54ad297eabb06b2716b0f7d66d3d5302d4e84c7355835e40586e27bf29c3"), looks := false }, told := true, laidByText := true, laidKinds := [.data, .data, .data], laidTests := true, laidLooks := .later, goes := false }
def FnGenerateSnapshotStreamsToldSaid : Prop := Claim7.holds Tryf.pinned (.plain (OpenSpec.ofChange fnGenerateSnapshotStreamsSpec)) fnGenerateSnapshotStreamsCard
/-- ITS FALSE NEIGHBOUR. Refute it at one input. -/
def FnGenerateSnapshotStreamsToldWrongFalsely : Prop := Claim7.holds Tryf.pinned (.plain (OpenSpec.ofChange fnGenerateSnapshotStreamsWrong)) fnGenerateSnapshotStreamsCard

/-- THE TOLD CARD OF 'zzlaws_root_b1.FnCheckPathSpec'. -/
def fnCheckPathSpecCard : Claim7 := { stood := { row := fnCheckPathSpecRow, standIns := [], harness := (true, "846c54ad297eabb06b2716b0f7d66d3d5302d4e84c7355835e40586e27bf29c3"), looks := false }, told := true, goes := false }
def FnCheckPathSpecToldSaid : Prop := Claim7.holds Tryf.pinned (.plain (OpenSpec.ofChange fnCheckPathSpecSpec)) fnCheckPathSpecCard
/-- ITS FALSE NEIGHBOUR. Refute it at one input. -/
def FnCheckPathSpecToldWrongFalsely : Prop := Claim7.holds Tryf.pinned (.plain (OpenSpec.ofChange fnCheckPathSpecWrong)) fnCheckPathSpecCard

/-- THE TOLD CARD OF 'zzlaws_root_b1.FnCheckPathJoin'. -/
def fnCheckPathJoinCard : Claim7 := { stood := { row := fnCheckPathJoinRow, standIns := [], harness := (true, "846c54ad297eabb06b2716b0f7d66d3d5302d4e84c7355835e40586e27bf29c3"), looks := false }, told := true, goes := false }
def FnCheckPathJoinToldSaid : Prop := Claim7.holds Tryf.pinned (.plain (OpenSpec.ofChange fnCheckPathJoinSpec)) fnCheckPathJoinCard
/-- ITS FALSE NEIGHBOUR. Refute it at one input. -/
def FnCheckPathJoinToldWrongFalsely : Prop := Claim7.holds Tryf.pinned (.plain (OpenSpec.ofChange fnCheckPathJoinWrong)) fnCheckPathJoinCard
end Rows
end Go.Proofs.Qxb6608650aFmt
