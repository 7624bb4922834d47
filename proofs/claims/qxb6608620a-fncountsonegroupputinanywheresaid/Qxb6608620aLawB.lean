/-
  The law: one group put in anywhere.
-/
import Derived.Test.Qxb6608620aGrown
namespace Go.Proofs.Qxb6608620a
open Go.RowKit

set_option maxRecDepth 100000 in
set_option maxHeartbeats 4000000 in
theorem putIn_walk (v u x : Value) (n m p : Nat) (L : Nat → Nat) (i0 : Int) (w : World) (h : Rows2 w v n L) (hu : Strs w u m) (hx : Strs w x p) :
    Calls Try.prog 4 #[v, u, x, .int .i64 i0] w fun e w' => e = .returned (.bool true) ∧ Below w.heap.size w w' := by
  have HU : Hid (Strs w u m) := hu
  obtain ⟨au, capu, rfl, u1, u2, u3⟩ := hu
  have HV : Hid (Rows2 w v n L) := h
  obtain ⟨av, capv, rfl, v1, v2, v3⟩ := h
  have HX : Hid (Strs w x p) := hx
  obtain ⟨ax, capx, rfl, x1, x2, x3⟩ := hx
  clear v3 u3 x3
  have hlen1 : n ≤ 9223372036854775807 := Nat.le_trans v1 v2
  have hlen2 : m ≤ 9223372036854775807 := Nat.le_trans u1 u2
  have hlen3 : p ≤ 9223372036854775807 := Nat.le_trans x1 x2
  go_enter Try.func4, Try.ntmps4
  go_wp2_with fail
  refine (bytes11_any _ _ _ n m p L _ _ HV.out HU.out HX.out).mono ?_
  rintro e w' ⟨⟨b, rfl, hb⟩, hw'⟩
  subst hw'
  cases b with
  | false =>
    go_wp2
    go_ret
    exact ⟨rfl, Below.refl _ _⟩
  | true =>
    obtain ⟨s1, s2, s3, s4⟩ := hb rfl
    clear hb
    by_cases hn : n ≤ 65536
    · by_cases hm : m ≤ 65536
      · by_cases hp : p ≤ 65536
        · have d1 : decide ((65536 : Int) < (n : Int)) = false := by simp; omega
          have d2 : decide ((65536 : Int) < (m : Int)) = false := by simp; omega
          have d2' : decide ((65536 : Int) < (p : Int)) = false := by simp; omega
          go_wp2_with fail
          refine (rowsSize_any _ n L _ _ HV.out).mono ?_
          rintro e w1 ⟨⟨z1, rfl⟩, hw1⟩
          subst hw1
          go_wp2_with fail
          refine (stringsSize_any _ m _ _ HU.out).mono ?_
          rintro e w1 ⟨⟨z2, rfl⟩, hw1⟩
          subst hw1
          go_wp2_with fail
          refine (stringsSize_any _ p _ _ HX.out).mono ?_
          rintro e w1 ⟨⟨z3, rfl⟩, hw1⟩
          subst hw1
          by_cases hz : z3 ≤ 1048576
          · have d3 : decide ((1048576 : Int) < z3) = false := by simp; omega
            by_cases c0 : 0 ≤ i0
            · obtain ⟨c, rfl⟩ := Int.eq_ofNat_of_zero_le c0
              by_cases c1 : c ≤ n
              · have d4 : decide ((c : Int) < 0) = false := by simp
                have d5 : decide (n < c) = false := by simp; omega
                have d8 : decide ((n : Int) < (c : Int)) = false := by simp; omega
                go_wp2_with fail
                refine (keysFit_any _ m _ HU.out).mono ?_
                rintro e w2 ⟨⟨b2, rfl⟩, hb2⟩
                cases b2 with
                | false =>
                  go_wp2
                  go_ret
                  exact ⟨rfl, hb2⟩
                | true =>
                  have HV2 : Hid (Rows2 w2 (.slice av n capv) n L) := HV.out.below hb2
                  have HU2 : Hid (Strs w2 (.slice au m capu) m) := HU.out.below hb2
                  have HX2 : Hid (Strs w2 (.slice ax p capx) p) := HX.out.below hb2
                  clear HU HV HX hlen1 hlen2 hlen3
                  obtain ⟨w3, hmk, hgr0, hb3⟩ := Grows.made w2 w2 n s1 (insL L c p)
                  have HG0 : Hid (Grows w2 w3 w2.heap.size 0 (n + 1) (insL L c p)) := hgr0
                  clear hgr0
                  go_wp2
                  clear hmk
                  go_loopg [9, 10] c (fun g s i wr => ∃ j : Nat, j ≤ c ∧ c ≤ j + g ∧ i = .int .i64 j ∧ s = .slice (some ⟨w2.heap.size, 0, none⟩) j (n + 1) ∧ Below w2.heap.size w2 wr ∧ Grows w2 wr w2.heap.size j (n + 1) (insL L c p))
                  case atStart => exact ⟨0, Nat.zero_le _, by omega, rfl, rfl, hb3, HG0.out⟩
                  case round =>
                    obtain ⟨j, hj, hg, rfl, rfl, hbr, hgr⟩ := hrel
                    clear HG0 hb3
                    by_cases hlt : j < c
                    · obtain ⟨a', cap', he, _, _, h3⟩ := HV2.out
                      injection he with e1 _ e3
                      subst e1 e3
                      obtain ⟨b, off, y, rfl, hb, hy, hrow⟩ := h3 j (by omega)
                      clear h3 HV2 HU2 HX2
                      have hrow' := hrow
                      obtain ⟨a2, cap2, rfl, _, _, _⟩ := hrow'
                      have hy' : wr.cell? ⟨b, off + j, none⟩ = some (.slice a2 (L j) cap2) := by rw [hbr.cell (p := ⟨b, off + j, none⟩) hb]; exact hy
                      clear hy
                      obtain ⟨v0, e0⟩ := hgr.1.2.1 j (by omega)
                      have f0 := hgr.1.2.2
                      have HGr : Hid (Grows w2 wr w2.heap.size j (n + 1) (insL L c p)) := hgr
                      have hloc := hgr.1.1
                      clear hgr
                      go_wp2
                      go_roundg (c - (j + 1))
                      case rel => exact ⟨j + 1, by omega, by omega, by go_num, rfl, below_alloc (hbr.setCell (Nat.le_refl _) _) _, HGr.out.push (by omega) (by rw [insL, if_pos hlt]; exact hrow) _⟩
                      case measure => omega
                    · obtain rfl : j = c := by omega
                      obtain ⟨v0, e0⟩ := hgr.1.2.1 j (by omega)
                      have f0 := hgr.1.2.2
                      have HGr : Hid (Grows w2 wr w2.heap.size j (n + 1) (insL L j p)) := hgr
                      have hloc := hgr.1.1
                      clear hgr
                      go_wp2
                      go_loopg [9, 11] (n - j) (fun g s i wi => ∃ q : Nat, j ≤ q ∧ q ≤ n ∧ n ≤ q + g ∧ i = .int .i64 q ∧ s = .slice (some ⟨w2.heap.size, 0, none⟩) (q + 1) (n + 1) ∧ Below w2.heap.size w2 wi ∧ Grows w2 wi w2.heap.size (q + 1) (n + 1) (insL L j p))
                      case atStart => exact ⟨j, Nat.le_refl _, c1, by omega, rfl, rfl, below_alloc (hbr.setCell (Nat.le_refl _) _) _, HGr.out.push (by omega) (by rw [insL, if_neg (by omega), if_pos rfl]; exact HX2.out) _⟩
                      case round =>
                        obtain ⟨q, hq0, hq, hg2, rfl, rfl, hbi, hgi⟩ := hrel
                        clear HGr hbr e0 f0 hloc
                        by_cases hlt2 : q < n
                        · obtain ⟨a', cap', he, _, _, h3⟩ := HV2.out
                          injection he with e1 _ e3
                          subst e1 e3
                          obtain ⟨b, off, y, rfl, hb, hy, hrow⟩ := h3 q (by omega)
                          clear h3 HV2 HU2 HX2
                          have hrow' := hrow
                          obtain ⟨a2, cap2, rfl, _, _, _⟩ := hrow'
                          have hy' : wr.cell? ⟨b, off + q, none⟩ = some (.slice a2 (L q) cap2) := by rw [hbi.cell (p := ⟨b, off + q, none⟩) hb]; exact hy
                          clear hy
                          obtain ⟨v0, e0⟩ := hgi.1.2.1 (q + 1) (by omega)
                          have f0 := hgi.1.2.2
                          have HGi : Hid (Grows w2 wr w2.heap.size (q + 1) (n + 1) (insL L j p)) := hgi
                          have hloc := hgi.1.1
                          clear hgi
                          go_wp2
                          go_roundg (n - (q + 1))
                          case rel => exact ⟨q + 1, by omega, by omega, by omega, by go_num, rfl, below_alloc (hbi.setCell (Nat.le_refl _) _) _, HGi.out.push (by omega) (by rw [insL, if_neg (by omega), if_neg (by omega)]; exact hrow) _⟩
                          case measure => omega
                        · obtain rfl : q = n := by omega
                          have HM : Hid (Rows2 wr (.slice (some ⟨w2.heap.size, 0, none⟩) (q + 1) (q + 1)) (q + 1) (insL L j p)) := hgi.rows hbi (Nat.le_refl _) (by unfold maxLen; omega)
                          have hsum := sumTo_insL L j p q c1
                          have HSum : Hid (sumTo (insL L j p) (q + 1) = sumTo L q + p) := hsum
                          have t1 : sumTo (insL L j p) (q + 1) ≤ 1048576 := by omega
                          have t2 : sumTo L q ≤ 1048576 := by omega
                          have q2 : ((sumTo (insL L j p) (q + 1) : Int) == (sumTo L q : Int) + (p : Int)) = true := by rw [beq_iff_eq]; omega
                          have HV3 : Hid (Rows2 wr (.slice av q capv) q L) := HV2.out.below hbi
                          have HU3 : Hid (Strs wr (.slice au m capu) m) := HU2.out.below hbi
                          obtain ⟨M, hM⟩ : ∃ M, M = insL L j p := ⟨_, rfl⟩
                          rw [← hM] at t1 q2 HM
                          clear hsum HSum hM HV2 HU2 HX2 hgi
                          go_wp2_with fail
                          refine (countsPolicy_any _ _ q m L _ HV3.out HU3.out s1 s2 (fun i hi => Nat.le_trans (sumTo_ge L hi) t2)).mono ?_
                          rintro e w5 ⟨p1, rfl, hp1, hb5⟩
                          go_wp2_with fail
                          refine (counts_any _ q L m _ hp1 (by omega) t2).mono ?_
                          rintro e w6 ⟨rfl, hb6⟩
                          have hb56 := below2 hb5 hb6
                          clear hp1
                          go_wp2_with fail
                          refine (countsPolicy_any _ _ (q + 1) m M _ (HM.out.below hb56) (HU3.out.below hb56) (by omega) s2 (fun i hi => Nat.le_trans (sumTo_ge M hi) t1)).mono ?_
                          rintro e w7 ⟨p2, rfl, hp2, hb7⟩
                          go_wp2_with fail
                          refine (counts_any _ (q + 1) M m _ hp2 (by omega) t1).mono ?_
                          rintro e w8 ⟨rfl, hb8⟩
                          clear hp2
                          go_wp2
                          go_ret
                          exact ⟨rfl, below2 (below2 hb2 hbi) (below2 hb56 (below2 hb7 hb8))⟩
              · go_wp2
                go_ret
                exact ⟨rfl, Below.refl _ _⟩
            · go_wp2
              go_ret
              exact ⟨rfl, Below.refl _ _⟩
          · go_wp2
            go_ret
            exact ⟨rfl, Below.refl _ _⟩
        · go_wp2
          go_ret
          exact ⟨rfl, Below.refl _ _⟩
      · go_wp2
        go_ret
        exact ⟨rfl, Below.refl _ _⟩
    · go_wp2
      go_ret
      exact ⟨rfl, Below.refl _ _⟩
end Go.Proofs.Qxb6608620a
