/-
  DERIVED. The walk of the law FnGenerateSnapshotStreams, over its four loops.
-/
import Derived.Test.Qxb6608650aFmtTail
import Derived.Test.Qxb6608650aFmtLawOut
import Derived.Deep.CutBlock
namespace Go.Proofs.Qxb6608650aFmt
open Go.RowKit Go.Extern.Stop Go.Stop Go.Extern

set_option maxRecDepth 100000 in
set_option maxHeartbeats 4000000 in
theorem streams_in (F : Interp) (N1 N2 P1 P2 seed : Nat) (w : World) (hF : F.answers w.tape) (hT : Tab w) (hN1 : 1 ≤ N1) (hN1' : N1 ≤ 1024) (hN2 : 1 ≤ N2) (hN2' : N2 ≤ 1024)
    (hP1 : 1 ≤ P1) (hP1' : P1 ≤ 150000) (hP2 : 1 ≤ P2) (hP2' : P2 ≤ 150000) :
    Calls Tryf.prog 4 #[.int .i64 N1, .int .i64 N2, .int .i64 P1, .int .i64 P2, .int .u64 seed] w fun e w' => e = .returned (.bool true) ∧ Below w.heap.size w w' := by
  have HF : Hid (F.answers w.tape) := hF
  have HT : Hid (Tab w) := hT
  clear hF hT
  go_enter Tryf.func4, Tryf.ntmps4
  go_wp2_with fail
  refine (gen_any F N1 P1 seed w HF.out HT.out hN1 hN1' hP1 hP1').mono ?_
  rintro e w1 ⟨S1, A1, R1, Q1, M1, rfl, hM1, hs1, hn1, hr1, hp1⟩
  have H1 : Hid (Snap w w1 S1 A1 R1 Q1 N1 P1 M1 M1 ∧ NodesTo F N1 seed w1 A1 (N1 + 1) ∧ RttTo F N1 seed w1 R1 M1 ∧ PodsTo F N1 P1 seed w1 Q1 P1) := ⟨hs1, hn1, hr1, hp1⟩
  have HM1 : Hid (2 * M1 = (N1 + 1) * N1) := hM1
  clear hs1 hn1 hr1 hp1 hM1
  go_wp2_with fail
  refine (gen_any F N2 P2 seed w1 (by rw [H1.out.1.bel.tape]; exact HF.out) (HT.out.below H1.out.1.bel) hN2 hN2' hP2 hP2').mono ?_
  rintro e w2 ⟨S2, A2, R2, Q2, M2, rfl, hM2, hs2, hn2, hr2, hp2⟩
  have H2 : Hid (Snap w1 w2 S2 A2 R2 Q2 N2 P2 M2 M2 ∧ NodesTo F N2 seed w2 A2 (N2 + 1) ∧ RttTo F N2 seed w2 R2 M2 ∧ PodsTo F N2 P2 seed w2 Q2 P2) := ⟨hs2, hn2, hr2, hp2⟩
  have HM2 : Hid (2 * M2 = (N2 + 1) * N2) := hM2
  have K1 : Hid (Snap w w2 S1 A1 R1 Q1 N1 P1 M1 M1 ∧ NodesTo F N1 seed w2 A1 (N1 + 1) ∧ RttTo F N1 seed w2 R1 M1 ∧ PodsTo F N1 P1 seed w2 Q1 P1) :=
    ⟨H1.out.1.below hs2.bel, H1.out.2.1.kept (hs2.bel.block A1 H1.out.1.rA.1), H1.out.2.2.1.kept (hs2.bel.block R1 H1.out.1.rR.1), H1.out.2.2.2.kept (hs2.bel.block Q1 H1.out.1.rQ.1)⟩
  clear hs2 hn2 hr2 hp2 hM2 H1
  have a0 := K1.out.1.c0
  have a5 := K1.out.1.c5
  have b0 := H2.out.1.c0
  have b5 := H2.out.1.c5
  go_upto_if 120 with fail
  go_cut [15] (fun x wc => wc = w2 ∧ ∃ m : Nat, x = .int .i64 m ∧ m ≤ N1 ∧ m ≤ N2)
  case first =>
    go_wp2_with fail
    all_goals
      go_meet
      case rel => exact ⟨rfl, _, rfl, by omega, by omega⟩
  case rest =>
    obtain ⟨rfl, m, rfl, hm1, hm2⟩ := hcut
    clear a0 b0 a5 b5
    go_upto_block 0 with fail
    rename_i hgo
    refine loop1 (by kernel_rfl) F N1 N2 P1 P2 seed m w w1 wc S1 A1 R1 Q1 M1 S2 A2 R2 Q2 M2 hN1' hm1 hm2 K1 H2 ?_
    unfold Hid
    intros
    rename_i w3 hb3
    have HB : Hid (Below wc.heap.size wc w3) := hb3
    clear hb3
    by_cases hne : N1 = N2
    · subst hne
      obtain rfl : M1 = M2 := by have h1 := HM1.out; have h2 := HM2.out; omega
      refine hgo _ _ (tail1 (R := fun e w' => e = Ending.returned (.bool true) ∧ Below w.heap.size w w') (by kernel_rfl) F N1 P1 P2 seed w w1 wc w3 S1 A1 R1 Q1 M1 S2 A2 R2 Q2 hN1' hP1' hP2' HM1 HB K1 H2 rfl ?_)
      unfold Hid
      intro w7 hb7
      exact ⟨rfl, K1.out.1.bel.trans (hb7.mono K1.out.1.bel.size)⟩
    · have hne' : ¬ ((N1 : Int) = (N2 : Int)) := by omega
      go_wp2
      go_ret
      exact ⟨rfl, K1.out.1.bel.trans (HB.out.mono K1.out.1.bel.size)⟩
end Go.Proofs.Qxb6608650aFmt
