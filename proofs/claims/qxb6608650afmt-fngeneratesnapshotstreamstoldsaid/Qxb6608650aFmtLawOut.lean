/-
  DERIVED. The walk of the law FnGenerateSnapshotStreams outside its bounds: it answers true at once.
-/
import Derived.Test.Qxb6608650aFmtLoopA
import Derived.Deep.CutBlock
namespace Go.Proofs.Qxb6608650aFmt
open Go.RowKit Go.Extern.Stop Go.Stop Go.Extern

set_option maxRecDepth 100000 in
set_option maxHeartbeats 1000000 in
theorem streams_out (n1 n2 p1 p2 : Int) (seed : Nat) (w : World) (h : n1 < 1 ∨ 1024 < n1 ∨ n2 < 1 ∨ 1024 < n2 ∨ p1 < 1 ∨ 150000 < p1 ∨ p2 < 1 ∨ 150000 < p2) :
    Calls Tryf.prog 4 #[.int .i64 n1, .int .i64 n2, .int .i64 p1, .int .i64 p2, .int .u64 seed] w fun e w' => e = .returned (.bool true) ∧ Below w.heap.size w w' := by
  by_cases h1 : n1 < 1 ∨ 1024 < n1 ∨ n2 < 1 ∨ 1024 < n2
  · go_enter Tryf.func4, Tryf.ntmps4
    go_wp2
    all_goals (go_ret; exact ⟨rfl, Below.refl _ _⟩)
  · have h2 : p1 < 1 ∨ 150000 < p1 ∨ p2 < 1 ∨ 150000 < p2 := by omega
    have g1 : 1 ≤ n1 := by omega
    have g2 : n1 ≤ 1024 := by omega
    have g3 : 1 ≤ n2 := by omega
    have g4 : n2 ≤ 1024 := by omega
    clear h h1
    go_enter Tryf.func4, Tryf.ntmps4
    go_wp2
    all_goals (go_ret; exact ⟨rfl, Below.refl _ _⟩)

end Go.Proofs.Qxb6608650aFmt
