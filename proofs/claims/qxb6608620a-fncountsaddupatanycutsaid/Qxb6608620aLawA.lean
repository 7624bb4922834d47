/-
  The law: counts add up at any cut.
-/
import Derived.Test.Qxb6608620aCuts
namespace Go.Proofs.Qxb6608620a
open Go.RowKit

theorem undrew {W X : World} (h : Below W.drew.heap.size W.drew X) : Below W.heap.size W X := ⟨h.os, h.tape, h.output, h.size, h.block⟩
theorem info9 : (Try.prog.info? 9).map (fun i => (i.zero, i.size, i.bytes)) = some (some (.string ⟨#[]⟩), 1, 16) := by kernel_rfl

set_option maxRecDepth 100000 in
set_option maxHeartbeats 4000000 in
theorem addUp_walk (v u : Value) (n m : Nat) (L : Nat → Nat) (i0 i1 : Int) (w : World) (h : Rows2 w v n L) (hu : Strs w u m) :
    Calls Try.prog 3 #[v, u, .int .i64 i0, .int .i64 i1] w fun e w' => e = .returned (.bool true) ∧ Below w.heap.size w w' := by
  have HU : Hid (Strs w u m) := hu
  obtain ⟨au, capu, rfl, u1, u2, u3⟩ := hu
  have HV : Hid (Rows2 w v n L) := h
  obtain ⟨av, capv, rfl, v1, v2, v3⟩ := h
  clear v3 u3
  have hlen1 : n ≤ 9223372036854775807 := Nat.le_trans v1 v2
  have hlen2 : m ≤ 9223372036854775807 := Nat.le_trans u1 u2
  go_enter Try.func3, Try.ntmps3
  go_wp2_with fail
  refine (bytes5_any _ _ n m L _ _ _ HV.out HU.out).mono ?_
  rintro e w' ⟨⟨b, rfl, hb⟩, hw'⟩
  subst hw'
  cases b with
  | false =>
    go_wp2
    go_ret
    exact ⟨rfl, Below.refl _ _⟩
  | true =>
    obtain ⟨s1, s2, s3⟩ := hb rfl
    clear hb
    by_cases hn : n ≤ 65536
    · by_cases hm : m ≤ 65536
      · have d1 : decide ((65536 : Int) < (n : Int)) = false := by simp; omega
        have d2 : decide ((65536 : Int) < (m : Int)) = false := by simp; omega
        go_wp2_with fail
        refine (rowsSize_any _ n L _ _ HV.out).mono ?_
        rintro e w1 ⟨⟨z1, rfl⟩, hw1⟩
        subst hw1
        go_wp2_with fail
        refine (stringsSize_any _ m _ _ HU.out).mono ?_
        rintro e w1 ⟨⟨z2, rfl⟩, hw1⟩
        subst hw1
        by_cases hz : z2 ≤ 1048576
        · have d3 : decide ((1048576 : Int) < z2) = false := by simp; omega
          by_cases c0 : 0 ≤ i0
          · obtain ⟨c, rfl⟩ := Int.eq_ofNat_of_zero_le c0
            by_cases c1 : c ≤ n
            · by_cases k0 : 0 ≤ i1
              · obtain ⟨k, rfl⟩ := Int.eq_ofNat_of_zero_le k0
                by_cases k1 : k ≤ m
                · have d4 : decide ((c : Int) < 0) = false := by simp
                  have d5 : decide (n < c) = false := by simp; omega
                  have d6 : decide ((k : Int) < 0) = false := by simp
                  have d7 : decide (m < k) = false := by simp; omega
                  have d8 : decide ((n : Int) < (c : Int)) = false := by simp; omega
                  have d9 : decide ((m : Int) < (k : Int)) = false := by simp; omega
                  go_wp2_with fail
                  refine (keysFit_any _ m _ HU.out).mono ?_
                  rintro e w2 ⟨⟨b2, rfl⟩, hb2⟩
                  cases b2 with
                  | false =>
                    go_wp2
                    go_ret
                    exact ⟨rfl, hb2⟩
                  | true =>
                    go_wp2
                    have HV2 : Hid (Rows2 w2 (.slice av n capv) n L) := HV.out.below hb2
                    have HU2 : Hid (Strs w2 (.slice au m capu) m) := HU.out.below hb2
                    clear HU HV hlen1 hlen2
                    go_loopg [9, 10] n (fun g s i wr => wr = w2 ∧ ∃ j : Nat, j ≤ n ∧ n ≤ j + g ∧ i = .int .i64 j ∧ s = .int .i64 (sumTo L j))
                    case atStart => exact ⟨rfl, 0, Nat.zero_le _, by omega, rfl, rfl⟩
                    case round =>
                      obtain ⟨rfl, j, hj, hg, rfl, rfl⟩ := hrel
                      have hmono := sumTo_mono L hj
                      by_cases hlt : j < n
                      · obtain ⟨a', cap', he, _, _, h3⟩ := HV2.out
                        injection he with e1 _ e3
                        subst e1 e3
                        obtain ⟨b, off, x, rfl, hb, hx, a2, cap2, rfl, _, _, _⟩ := h3 j hlt
                        clear h3 HV2 HU2
                        have hm2 := sumTo_mono L (show j + 1 ≤ n from hlt)
                        rw [sumTo_succ] at hm2
                        go_wp2
                        go_roundg (n - (j + 1))
                        case rel => exact ⟨rfl, j + 1, by omega, by omega, by go_num, by rw [sumTo_succ]; go_num⟩
                        case measure => omega
                      · obtain rfl : j = n := by omega
                        obtain ⟨r, hr⟩ : ∃ r, r = j - c := ⟨_, rfl⟩
                        obtain ⟨q, hq⟩ : ∃ q, q = m - k := ⟨_, rfl⟩
                        obtain ⟨M, hM⟩ : ∃ M : Nat → Nat, M = fun i => L (c + i) := ⟨_, rfl⟩
                        obtain ⟨va, hta, hra⟩ : ∃ va, (∀ W, (Instr.slice 22 (.slice av j capv) none (some (.int .i64 (c : Int))) none).run Try.prog W = .ok va W) ∧ Rows2 wr va c L :=
                          ⟨_, run_take Try.underlying22 info23 av j capv c (by omega), Row.cut_take HV2.out c1⟩
                        obtain ⟨vb, htb, hrb⟩ : ∃ vb, (∀ W, (Instr.slice 22 (.slice av j capv) (some (.int .i64 (c : Int))) none none).run Try.prog W = .ok vb W) ∧ Rows2 wr vb r M :=
                          ⟨_, run_drop Try.underlying22 info23 av j capv c c1, by rw [hr, hM]; exact Row.cut_drop HV2.out c1⟩
                        obtain ⟨ua, hua, hsa⟩ : ∃ va, (∀ W, (Instr.slice 23 (.slice au m capu) none (some (.int .i64 (k : Int))) none).run Try.prog W = .ok va W) ∧ Strs wr va k :=
                          ⟨_, run_take Try.underlying23 info9 au m capu k (by omega), Row.cut_take HU2.out k1⟩
                        obtain ⟨ub, hub, hsb⟩ : ∃ vb, (∀ W, (Instr.slice 23 (.slice au m capu) (some (.int .i64 (k : Int))) none none).run Try.prog W = .ok vb W) ∧ Strs wr vb q :=
                          ⟨_, run_drop Try.underlying23 info9 au m capu k k1, by rw [hq]; exact Row.cut_drop HU2.out k1⟩
                        have hcut : sumTo L j = sumTo L c + sumTo M r := by rw [hM, ← sumTo_cut, hr]; congr 1; omega
                        have t1 : sumTo L c ≤ 1048576 := by omega
                        have t2 : sumTo M r ≤ 1048576 := by omega
                        have t3 : c ≤ 65536 := by omega
                        have t4 : r ≤ 65536 := by omega
                        have t5 : k ≤ 65536 := by omega
                        have t6 : q ≤ 65536 := by omega
                        have q1 : ((j : Int) == (c : Int) + (r : Int)) = true := by rw [beq_iff_eq]; omega
                        have q2 : ((sumTo L j : Int) == (sumTo L c : Int) + (sumTo M r : Int)) = true := by rw [beq_iff_eq]; omega
                        have q3 : ((m : Int) == (k : Int) + (q : Int)) = true := by rw [beq_iff_eq]; omega
                        clear hcut hr hq hM
                        have HRa : Hid (Rows2 wr va c L) := hra
                        have HRb : Hid (Rows2 wr vb r M) := hrb
                        have HSa : Hid (Strs wr ua k) := hsa
                        have HSb : Hid (Strs wr ub q) := hsb
                        clear hra hrb hsa hsb
                        go_wp2_with fail
                        refine (countsPolicy_any _ _ j m L _ HV2.out HU2.out s1 s2 (fun i hi => Nat.le_trans (sumTo_ge L hi) s3)).mono ?_
                        rintro e w3 ⟨p1, rfl, hp1, hb3⟩
                        have HP1 : Hid (PolicyAt w3 p1 j L m) := hp1
                        clear hp1 HV2 HU2
                        go_wp2_with fail
                        go_region_with (go_at_call 9; refine (countsPolicy_any _ _ c k L _ ?_ ?_ (by omega) (by omega) (fun i hi => Nat.le_trans (sumTo_ge L hi) t1)).mono ?_; exact HRa.out.below hb3.drew; exact HSa.out.below hb3.drew; rintro e w4 ⟨p2, rfl, hp2, hb4⟩)
                        have hb4' : Below w3.heap.size w3 w4 := undrew hb4
                        have HP2 : Hid (PolicyAt w4 p2 c L k) := hp2
                        have hb14 := below2 hb3 hb4'
                        clear hp2 hb4
                        go_wp2_with fail
                        go_region_with (go_at_call 9; refine (countsPolicy_any _ _ r q M _ ?_ ?_ (by omega) (by omega) (fun i hi => Nat.le_trans (sumTo_ge M hi) t2)).mono ?_; exact HRb.out.below hb14.drew; exact HSb.out.below hb14.drew; rintro e w5 ⟨p3, rfl, hp3, hb5⟩)
                        have hb5' : Below w4.heap.size w4 w5 := undrew hb5
                        have HP3 : Hid (PolicyAt w5 p3 r M q) := hp3
                        clear hp3 hb5 hta htb hua hub HRa HRb HSa HSb
                        go_wp2_with fail
                        refine (counts_any _ j L m _ (HP1.out.below (below2 hb4' hb5')) (by omega) s3).mono ?_
                        rintro e w6 ⟨rfl, hb6⟩
                        go_wp2_with fail
                        refine (counts_any _ c L k _ (HP2.out.below (below2 hb5' hb6)) (by omega) t1).mono ?_
                        rintro e w7 ⟨rfl, hb7⟩
                        go_wp2_with fail
                        refine (counts_any _ r _ q _ (HP3.out.below (below2 hb6 hb7)) (by omega) t2).mono ?_
                        rintro e w8 ⟨rfl, hb8⟩
                        go_wp2
                        go_ret
                        exact ⟨rfl, below2 (below2 hb2 hb14) (below2 hb5' (below2 hb6 (below2 hb7 hb8)))⟩
                · go_wp2
                  go_ret
                  exact ⟨rfl, Below.refl _ _⟩
              · go_wp2
                go_ret
                exact ⟨rfl, Below.refl _ _⟩
            · go_wp2
              go_ret
              exact ⟨rfl, Below.refl _ _⟩
          · go_wp2
            go_ret
            exact ⟨rfl, Below.refl _ _⟩
        · go_wp2
          go_ret
          exact ⟨rfl, Below.refl _ _⟩
      · go_wp2
        go_ret
        exact ⟨rfl, Below.refl _ _⟩
    · go_wp2
      go_ret
      exact ⟨rfl, Below.refl _ _⟩
end Go.Proofs.Qxb6608620a
