/-
  DERIVED. The walk of GenerateSnapshot, over its loops.
-/
import Derived.Test.Qxb6608650aFmtGenC
import Derived.Test.Qxb6608650aFmtGenD
namespace Go.Proofs.Qxb6608650aFmt
open Go.RowKit Go.Extern.Stop Go.Stop Go.Extern

attribute [-go_sem] storeVar
attribute [local go_sem] store47 store66 store29

set_option maxRecDepth 100000 in
set_option maxHeartbeats 4000000 in
theorem gen_any (F : Interp) (N P seed : Nat) (w : World) (hF : F.answers w.tape) (hT : Tab w) (hN0 : 1 ≤ N) (hN : N ≤ 1024) (hP0 : 1 ≤ P) (hP : P ≤ 150000) :
    Calls Tryf.prog 7 #[.int .i64 N, .int .i64 P, .int .u64 seed] w fun e w' => ∃ S A R Q M, e = .returned (.tuple #[.pointer (some ⟨S, 0, none⟩), .nilIface]) ∧ 2 * M = (N + 1) * N ∧ Snap w w' S A R Q N P M M ∧ NodesTo F N seed w' A (N + 1) ∧ RttTo F N seed w' R M ∧ PodsTo F N P seed w' Q P := by
  have HF : Hid (F.answers w.tape) := hF
  have HT : Hid (Tab w) := hT
  clear hF hT
  obtain ⟨M, hM⟩ : ∃ M, 2 * M = (N + 1) * N := by
    refine ⟨(N + 1) * N / 2, ?_⟩
    have : (N + 1) * N % 2 = 0 := by
      rcases Nat.mod_two_eq_zero_or_one N with h | h
      · rw [Nat.mul_mod, h]; simp
      · rw [Nat.mul_mod, Nat.add_mod, h]
    omega
  have hle : (N + 1) * N ≤ 1025 * 1024 := Nat.mul_le_mul (by omega) hN
  have hM1 : M ≤ 1048576 := by omega
  obtain ⟨cA, hcA, mA⟩ := mk_some (t := 28) Tryf.underlying28 info47 (by decide) (N + 1) (N + 1) (Nat.le_refl _) (by omega)
  obtain ⟨cR, hcR, mR⟩ := mk_some (t := 29) Tryf.underlying29 info53 (by decide) 0 M (Nat.zero_le _) hM1
  obtain ⟨cQ, hcQ, mQ⟩ := mk_some (t := 31) Tryf.underlying31 info66 (by decide) P P (Nat.le_refl _) (by omega)
  have mA : ∀ w, (Instr.makeSlice 28 (.int .i64 ((N : Int) + 1)) (.int .i64 ((N : Int) + 1))).run Tryf.prog w = .ok (.slice (some ⟨w.heap.size, 0, none⟩) (N + 1) (N + 1)) (w.alloc (.cells cA 47)) := mA
  have mR : ∀ w, (Instr.makeSlice 29 (.int .i64 0) (.int .i64 (M : Int))).run Tryf.prog w = .ok (.slice (some ⟨w.heap.size, 0, none⟩) 0 M) (w.alloc (.cells cR 53)) := mR
  obtain ⟨K, hK⟩ : ∃ K, K = (N + 1) * N := ⟨_, rfl⟩
  have hp : ((N : Int) + 1) * (N : Int) = (K : Int) := by rw [hK, Int.natCast_mul]; rfl
  have hK1 : K ≤ 1049600 := by omega
  have hq : (K : Int).tdiv 2 = (M : Int) := by
    rw [hK, ← hM, Int.natCast_mul]
    exact Int.mul_tdiv_cancel_left _ (by decide)
  have HM : Hid (2 * M = (N + 1) * N) := hM
  clear hK hM hle
  go_enter Tryf.func7, Tryf.ntmps7
  go_upto_region 5 with fail
  go_cut [8] (fun x wc => ∃ S A R Q, x = .pointer (some ⟨S, 0, none⟩) ∧ Snap w wc S A R Q N P M 0)
  case first =>
    go_region
    all_goals
      go_wp2_with fail
      go_meet
      case rel =>
        obtain ⟨b1, b2, b3, b4, b5⟩ := heap_four w _ _ _ _
        exact ⟨_, _, _, _, rfl, Snap.ofBlocks b5 b4 (by first | exact b1 | exact b2 | exact b3) (by first | exact b1 | exact b2 | exact b3) (by first | exact b1 | exact b2 | exact b3) hcA hcR hcQ (by omega) (by omega)⟩
  case rest =>
    obtain ⟨S, A, R, Q, rfl, hsn⟩ := hcut
    have HS : Hid (Snap w wc S A R Q N P M 0) := hsn
    have c0 := hsn.c0
    have tA := hsn.rA.there 0 22 (by omega)
    clear mA mR mQ hcA hcR hcQ hp hq hsn
    go_wp2_with fail
    generalize hvs : [Value.string ⟨#[109, 97, 115, 116, 101, 114]⟩, .bool false, .float .f64 0, .float .f64 0, .float .f64 0, .float .f64 0, .float .f64 0, .float .f64 0, .float .f64 0, .float .f64 0, .float .f64 0, .float .f64 0, .float .f64 0, .int .i64 0, .int .i64 0, .slice none 0 0, .slice none 0 0, .slice none 0 0, .string ⟨#[]⟩, .string ⟨#[]⟩, .map none, .slice none 0 0] = vs
    have HS1 : Hid (Snap w (wc.setCells A 0 vs) S A R Q N P M 0 ∧ NodesTo F N seed (wc.setCells A 0 vs) A 1) :=
      ⟨HS.out.set A (Or.inl rfl) 0 vs, NodesTo.zero F N seed wc A vs (by rw [← hvs]; exact tA) (by rw [← hvs]; rfl) (by rw [← hvs]; rfl)⟩
    generalize wc.setCells A 0 vs = w1 at HS1
    clear HS c0 tA hvs
    refine (stream_any seed 4 w1 (by decide)).mono ?_
    rintro e w2 ⟨p, q, rfl, hpn, hqn, hrand, hb2⟩
    have HR2 : Hid (IsRand w2 p q (nst seed 0)) := hrand
    have HS2 : Hid (Snap w w2 S A R Q N P M 0 ∧ NodesTo F N seed w2 A 1) := ⟨HS1.out.1.below hb2, HS1.out.2.kept (hb2.block A HS1.out.1.rA.1)⟩
    have hlt := HS1.out.1.lt
    have hlA := HS1.out.1.rA.1
    have hlR := HS1.out.1.rR.1
    have hlQ := HS1.out.1.rQ.1
    have hbw := HS1.out.1.bel.size
    have n1 : S ≠ q := by omega
    have n2 : A ≠ q := by omega
    have n3 : R ≠ q := by omega
    have n4 : Q ≠ q := by omega
    have hWq : w.heap.size ≤ q := by omega
    have m2 : A ≠ p := by omega
    clear hrand hb2 HS1 hlt hlA hlR hlQ hbw hpn hqn
    go_upto_block 1 with fail
    refine gloop1 (by kernel_rfl) F N P seed M w w2 S A R Q p q hN0 hN HF HT n1 n2 n3 n4 m2 hWq HR2 HS2 ?_
    unfold Hid
    intros
    rename_i w8 hs8
    have HN : Hid (Snap w w8 S A R Q N P M 0 ∧ NodesTo F N seed w8 A (N + 1)) := hs8
    clear hs8 HR2 HS2 n1 n2 n3 n4 m2 hWq
    go_wp2_with fail
    refine (stream_any seed 5 w8 (by decide)).mono ?_
    rintro e w9 ⟨p2, q2, rfl, hpn, hqn, hrand, hb2⟩
    have HR2 : Hid (IsRand w9 p2 q2 (rst seed 0)) := hrand
    have HS2 : Hid (Snap w w9 S A R Q N P M 0 ∧ NodesTo F N seed w9 A (N + 1)) := ⟨HN.out.1.below hb2, HN.out.2.kept (hb2.block A HN.out.1.rA.1)⟩
    have hlt' := HN.out.1.lt
    have hlA := HN.out.1.rA.1
    have hlR := HN.out.1.rR.1
    have hlQ := HN.out.1.rQ.1
    have hbw := HN.out.1.bel.size
    have n1 : S ≠ q2 := by omega
    have n2 : A ≠ q2 := by omega
    have n3 : R ≠ q2 := by omega
    have n4 : Q ≠ q2 := by omega
    have m1 : S ≠ p2 := by omega
    have m3 : R ≠ p2 := by omega
    have hWq : w.heap.size ≤ q2 := by omega
    have c0 := HS2.out.1.c0
    clear hrand hb2 HN hlt' hlA hlR hlQ hbw hpn hqn
    go_upto_block 3 with fail
    clear c0
    refine gloop2 (by kernel_rfl) F N P seed M w w9 S A R Q p2 q2 hN HM n1 n2 n3 n4 m1 m3 hWq HR2 HS2 ?_
    unfold Hid
    intros
    rename_i w10 hs10
    have HN : Hid (Snap w w10 S A R Q N P M M ∧ NodesTo F N seed w10 A (N + 1) ∧ RttTo F N seed w10 R M) := hs10
    clear hs10 HR2 HS2 n1 n2 n3 n4 m1 m3 hWq
    go_wp2_with fail
    refine (stream_any seed 6 w10 (by decide)).mono ?_
    rintro e w11 ⟨p3, q3, rfl, hpn, hqn, hrand, hb2⟩
    have HR2 : Hid (IsRand w11 p3 q3 (pst seed N 0)) := hrand
    have HS2 : Hid (Snap w w11 S A R Q N P M M ∧ NodesTo F N seed w11 A (N + 1) ∧ RttTo F N seed w11 R M) := ⟨HN.out.1.below hb2, HN.out.2.1.kept (hb2.block A HN.out.1.rA.1), HN.out.2.2.kept (hb2.block R HN.out.1.rR.1)⟩
    have hlt' := HN.out.1.lt
    have hlA := HN.out.1.rA.1
    have hlR := HN.out.1.rR.1
    have hlQ := HN.out.1.rQ.1
    have hbw := HN.out.1.bel.size
    have n1 : S ≠ q3 := by omega
    have n2 : A ≠ q3 := by omega
    have n3 : R ≠ q3 := by omega
    have n4 : Q ≠ q3 := by omega
    have m4 : Q ≠ p3 := by omega
    have hWq : w.heap.size ≤ q3 := by omega
    have c5 := HS2.out.1.c5
    clear hrand hb2 HN hlt' hlA hlR hlQ hbw hpn hqn
    go_upto_block 7 with fail
    clear c5
    refine gloop4 (by kernel_rfl) F N P seed M w w11 S A R Q p3 q3 hN0 hN hP HF HT n1 n2 n3 n4 m4 hWq HR2 HS2 ?_
    unfold Hid
    intros
    rename_i w12 hs12
    have HN : Hid (Snap w w12 S A R Q N P M M ∧ NodesTo F N seed w12 A (N + 1) ∧ RttTo F N seed w12 R M ∧ PodsTo F N P seed w12 Q P) := hs12
    clear hs12
    go_wp2
    go_ret2
    exact ⟨S, A, R, Q, M, rfl, HM.out, HN.out⟩
end Go.Proofs.Qxb6608650aFmt
