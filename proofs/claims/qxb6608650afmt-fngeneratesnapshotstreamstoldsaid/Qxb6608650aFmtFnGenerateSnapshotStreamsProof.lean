/-
  THE PROOF OF 'Rows.FnGenerateSnapshotStreamsToldSaid': the card, told and tied. The frame after the guide's worked Derived/Test/B64badTold.lean and PortSeven.lean, at this function; the walk is our own.
-/
import Derived.Test.Qxb6608650aFmtCards
import Derived.Test.Qxb6608650aFmtTie
import Derived.Test.Qxb6608650aFmtLaw
import Derived.ProofKit
import Derived.Stop.JoinedAt
import Derived.Stop.JoinedTold
import Derived.Stop.Texts
import Derived.Lib.LaidTab
import Derived.Lib.LaidIn
import Derived.Stop.LaidErr
import Derived.OpenShut
import Derived.SevenTiedAt
namespace Go.Proofs.Qxb6608650aFmt.fnGenerateSnapshotStreams
open Go.ChangeShapes Go.WideShapes Go.ChangeAt Go.RowKit Go.Kit
open Go.Extern.Stop Go.Stop Go.Extern

theorem own : ownKnob Tryf.prog.godebug = none := by kernel_rfl
theorem laidOut : laidOutB Tryf.pinned.checked.prog = true := by kernel_rfl
theorem stops : Tryf.pinned.checked.prog.stops = ["fmt.errorf", "fmt.Sprintf"] := by kernel_rfl
theorem stopKnobs : Tryf.pinned.checked.prog.stopKnobs = [] := by kernel_rfl
theorem quiet (os : Os) : Stop.quiet Tryf.pinned.checked.prog os := by
  intro k hk
  rw [stopKnobs] at hk
  cases hk
theorem gT : Tryf.prog.globalNamed "internal/strconv.uint64pow10" = some 0 := by kernel_rfl
theorem gTType : (Tryf.prog.globals[0]?).map (·.type) = some 122 := by kernel_rfl

/-- THE WITNESS: the settled world, the three tables laid. -/
noncomputable def laidWorld (os : Os) : World :=
  let w0 := World.holding Tryf.prog os ⟨#[], #[], []⟩
  { w0 with heap := ((w0.heap.modify 0 fun
      | .cells _ t frozen => .cells (Lib.pow10Tab.map fun z => Value.int .u64 z).toArray t frozen
      | o => o).modify 1 fun
      | .cells _ t frozen => .cells #[.int .u8 0, .int .u8 1, .int .u8 28, .int .u8 2, .int .u8 29, .int .u8 14, .int .u8 24, .int .u8 3, .int .u8 30, .int .u8 22, .int .u8 20, .int .u8 15, .int .u8 25, .int .u8 17, .int .u8 4, .int .u8 8, .int .u8 31, .int .u8 27, .int .u8 13, .int .u8 23, .int .u8 21, .int .u8 19, .int .u8 16, .int .u8 7, .int .u8 26, .int .u8 12, .int .u8 18, .int .u8 6, .int .u8 11, .int .u8 5, .int .u8 10, .int .u8 9] t frozen
      | o => o).modify 2 fun
      | .cells _ t frozen => .cells #[.int .u8 0, .int .u8 1, .int .u8 56, .int .u8 2, .int .u8 57, .int .u8 49, .int .u8 28, .int .u8 3, .int .u8 61, .int .u8 58, .int .u8 42, .int .u8 50, .int .u8 38, .int .u8 29, .int .u8 17, .int .u8 4, .int .u8 62, .int .u8 47, .int .u8 59, .int .u8 36, .int .u8 45, .int .u8 43, .int .u8 51, .int .u8 22, .int .u8 53, .int .u8 39, .int .u8 33, .int .u8 30, .int .u8 24, .int .u8 18, .int .u8 12, .int .u8 5, .int .u8 63, .int .u8 55, .int .u8 48, .int .u8 27, .int .u8 60, .int .u8 41, .int .u8 37, .int .u8 16, .int .u8 46, .int .u8 35, .int .u8 44, .int .u8 21, .int .u8 52, .int .u8 32, .int .u8 23, .int .u8 11, .int .u8 54, .int .u8 26, .int .u8 40, .int .u8 15, .int .u8 34, .int .u8 20, .int .u8 31, .int .u8 10, .int .u8 25, .int .u8 14, .int .u8 19, .int .u8 9, .int .u8 13, .int .u8 8, .int .u8 7, .int .u8 6] t frozen
      | o => o }

theorem laid_met (os : Os) (args : Array Value) : laidMet Tryf.prog Rows.fnGenerateSnapshotStreamsRow.laid ((laidWorld os).forCall (fun _ _ => 0) ⟨#[], args, []⟩).memory :=
  (LaidIn.of_run [0, 1, 2] 8 (by kernel_rfl) (by kernel_rfl) (by kernel_rfl) (by kernel_rfl)).met

theorem tab {W : World} (h : laidMetH Tryf.prog Rows.fnGenerateSnapshotStreamsRow.laid W) : Tab W := by
  have h' : laidMet Tryf.prog [("internal/strconv.uint64pow10", Lib.tabData .u64 Lib.pow10Tab)] W := (laidMet.tail (laidMet.tail h))
  exact Lib.tabIs_of_head gT gTType Tryf.underlying122 Tryf.underlying22 (by kernel_rfl) (by kernel_rfl) h'

theorem law (F : Interp) (n1 n2 p1 p2 seed : Int) (W : World) (hF : F.answers W.tape) (hT : Tab W) (s0 : 0 ≤ seed) :
    Calls Tryf.prog 4 #[.int .i64 n1, .int .i64 n2, .int .i64 p1, .int .i64 p2, .int .u64 seed] W fun e w' => e = .returned (.bool true) ∧ Below W.heap.size W w' := by
  obtain ⟨s, rfl⟩ : ∃ s : Nat, seed = s := ⟨seed.toNat, by omega⟩
  by_cases h : n1 < 1 ∨ 1024 < n1 ∨ n2 < 1 ∨ 1024 < n2 ∨ p1 < 1 ∨ 150000 < p1 ∨ p2 < 1 ∨ 150000 < p2
  · exact streams_out n1 n2 p1 p2 s W h
  · obtain ⟨N1, rfl⟩ : ∃ s : Nat, n1 = s := ⟨n1.toNat, by omega⟩
    obtain ⟨N2, rfl⟩ : ∃ s : Nat, n2 = s := ⟨n2.toNat, by omega⟩
    obtain ⟨P1, rfl⟩ : ∃ s : Nat, p1 = s := ⟨p1.toNat, by omega⟩
    obtain ⟨P2, rfl⟩ : ∃ s : Nat, p2 = s := ⟨p2.toNat, by omega⟩
    exact streams_in F N1 N2 P1 P2 s W hF hT (by omega) (by omega) (by omega) (by omega) (by omega) (by omega) (by omega) (by omega)

set_option maxRecDepth 100000 in
theorem lifted (os : Os) (started : os.Started) (H : Type) (enc : TypeId × Value → H) :
    ReturnsInTold none {} Tryf.checked os 4 .any Input.okWide ((OpenSpec.ofChange Rows.fnGenerateSnapshotStreamsSpec).preRow enc Tryf.prog Tryf.f4 [] false Rows.fnGenerateSnapshotStreamsRow.laid) (fun F => ((OpenSpec.ofChange Rows.fnGenerateSnapshotStreamsSpec).at F).post enc Tryf.prog Tryf.f4 false true false false) (aloneAtReturn Tryf.prog) nothingAlways := by
  refine returnsInTold_of_row (C := Tryf.checked) (s := OpenSpec.ofChange Rows.fnGenerateSnapshotStreamsSpec) (by kernel_rfl) own started (by kernel_rfl) Tryf.func4
    (OpenSpec.witness_stopped_at (enc := enc) (C := Tryf.checked) false (laidWorld os) #[.int .i64 1, .int .i64 1, .int .i64 1, .int .i64 1, .int .u64 1] rfl (by kernel_rfl) (by kernel_rfl) (by kernel_rfl)
      (OpenSpec.preRow_of_B rfl 8 (by kernel_rfl) (by kernel_rfl) (laid_met os _))) ?_
  intro F W base args ds gs before _ hF hval0 hW _ _ _ hL _
  have hval : ∀ (j : Nat) t v, Tryf.f4.params[j]? = some t → args[j]? = some v → Value.okWide Tryf.prog W .any base t v := hval0
  have hW' := hW
  obtain ⟨p, q, hA0, hV, rfl, hfz, hnd⟩ := hW
  have hA : DataW.TrodAll enc Tryf.prog W 0 (fun _ => true) true Tryf.f4.params.toList args.toList ds p := hA0
  rw [Tryf.params4] at hA hval
  obtain ⟨v0, vs0, d0, ds0, p0, q0, hargs, rfl, rfl, h0, r0⟩ := trodAll_cons hA
  obtain ⟨v1, vs1, d1, ds1, p1, q1, rfl, rfl, rfl, h1, r1⟩ := trodAll_cons r0
  obtain ⟨v2, vs2, d2, ds2, p2, q2, rfl, rfl, rfl, h2, r2⟩ := trodAll_cons r1
  obtain ⟨v3, vs3, d3, ds3, p3, q3, rfl, rfl, rfl, h3, r3⟩ := trodAll_cons r2
  obtain ⟨v4, vs4, d4, ds4, p4, q4, rfl, rfl, rfl, h4, r4⟩ := trodAll_cons r3
  obtain ⟨rfl, rfl, rfl⟩ := trodAll_nil r4
  obtain rfl : args = #[v0, v1, v2, v3, v4] := by cases args; simp_all
  obtain ⟨rfl, rfl⟩ := trodVars_none hV
  obtain ⟨a0, rfl, rfl, rfl, w0⟩ := open_int Tryf.underlying3 (hval 0 3 v0 rfl rfl) h0
  obtain ⟨a1, rfl, rfl, rfl, w1⟩ := open_int Tryf.underlying3 (hval 1 3 v1 rfl rfl) h1
  obtain ⟨a2, rfl, rfl, rfl, w2⟩ := open_int Tryf.underlying3 (hval 2 3 v2 rfl rfl) h2
  obtain ⟨a3, rfl, rfl, rfl, w3⟩ := open_int Tryf.underlying3 (hval 3 3 v3 rfl rfl) h3
  obtain ⟨a4, rfl, rfl, rfl, w4⟩ := open_int Tryf.underlying22 (hval 4 22 v4 rfl rfl) h4
  clear hA0 hval0
  have hs : 0 ≤ a4 := by
    have := w4
    simp [Lit.wf, IntKind.min, IntKind.max, IntKind.signed, IntKind.bits] at this
    omega
  refine (law F.told a0 a1 a2 a3 a4 W hF (tab hL) hs).mono fun e W' ⟨he, bel⟩ => ?_
  subst he
  exact ⟨_, rfl, _, _, _, [], _, [], hW', trodAll_mk1 (shut_bool Tryf.underlying4 _), (trodAll_cons_mk (shut_int Tryf.underlying3 w0) (trodAll_cons_mk (shut_int Tryf.underlying3 w1) (trodAll_cons_mk (shut_int Tryf.underlying3 w2) (trodAll_cons_mk (shut_int Tryf.underlying3 w3) (trodAll_cons_mk (shut_int Tryf.underlying22 w4) trodAll_mk0))))), rfl, bel.frame _, fun h => by cases h⟩

/-- THE STATEMENT -/
theorem proved : Rows.FnGenerateSnapshotStreamsToldSaid :=
  Claim7.holds_of_told_tied_any_at .later (c := Rows.fnGenerateSnapshotStreamsRow) 4 Tryf.f4 "fmt.errorf" ["fmt.Sprintf"] [] (true, "846c54ad297eabb06b2716b0f7d66d3d5302d4e84c7355835e40586e27bf29c3") false false [.data, .data, .data] true
    (by kernel_rfl) rfl rfl rfl laidOut (by kernel_rfl) rfl ⟨rfl, rfl, rfl, rfl, rfl, rfl, rfl⟩ rfl rfl (by kernel_rfl) (by kernel_rfl) Tryf.func4 (by kernel_rfl)
    (of_decide_eq_true (by kernel_rfl)) (of_decide_eq_true (by kernel_rfl)) stops.symm rfl stopKnobs.symm (by kernel_rfl)
    (by kernel_rfl) (by kernel_rfl) (by kernel_rfl) (by kernel_rfl) (by kernel_rfl) (by kernel_rfl) (by kernel_rfl) (by kernel_rfl) (by kernel_rfl) rfl (by kernel_rfl) rfl rfl
    rfl rfl
    rfl (by kernel_rfl) (by kernel_rfl) (by kernel_rfl) (by decide) (by kernel_rfl) fnGenerateSnapshotStreams_row_tie
    (OpenClaim.moreEntering_of (by kernel_rfl) (by kernel_rfl) (by kernel_rfl) (by kernel_rfl) (by kernel_rfl) (by kernel_rfl) (by kernel_rfl) (by kernel_rfl) (by kernel_rfl) (by kernel_rfl))
    ⟨_, WideRow.started_initial, quiet _⟩
    (fun os started _ H enc _ => lifted os started H enc)
#print axioms proved
end Go.Proofs.Qxb6608650aFmt.fnGenerateSnapshotStreams
