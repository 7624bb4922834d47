/-
  The guard on names: where it does not skip, no entry is a name of the nodes.
-/
import Derived.Test.Qxb6608650aBase
namespace Go.Proofs.Qxb6608650a
open Go.RowKit

set_option maxRecDepth 100000 in
set_option maxHeartbeats 2000000 in
theorem skip_any (v v2 v3 v4 : Value) (n n2 n3 m : Nat) (T E : Nat → ByteArray) (k : Int) (w : World) (h : Strs w v n T) (hr : Ints .i64 w v2 n2) (hd : Ints .i32 w v3 n3) (he : Strs w v4 m E) :
    Calls Try.prog 19 #[v, .int .i64 k, v2, v3, v4] w fun e w' => (∃ b, e = .returned (.bool b) ∧ (b = false → n ≤ 4096 ∧ m ≤ 4096 ∧ n2 ≤ 131072 ∧ n3 ≤ 262144 ∧ 0 ≤ k ∧ k ≤ 4096 ∧ ∀ i, i < m → ∀ j, j < n → E i ≠ T j)) ∧ Below w.heap.size w w' := by
  obtain ⟨a, cap, rfl, h1, h2, h3⟩ := h
  obtain ⟨a2, cap2, rfl, r1, r2, _⟩ := hr
  obtain ⟨a3, cap3, rfl, d1, d2, _⟩ := hd
  obtain ⟨a4, cap4, rfl, e1, e2, e3⟩ := he
  unfold maxLen at h2 r2 d2 e2
  have HV : Hid (∀ j, j < n → ∃ b off x, a = some ⟨b, off, none⟩ ∧ b < w.heap.size ∧ w.cell? ⟨b, off + j, none⟩ = some x ∧ x = .string (T j) ∧ (T j).size ≤ maxLen) := h3
  have HE : Hid (∀ j, j < m → ∃ b off x, a4 = some ⟨b, off, none⟩ ∧ b < w.heap.size ∧ w.cell? ⟨b, off + j, none⟩ = some x ∧ x = .string (E j) ∧ (E j).size ≤ maxLen) := e3
  clear h3 e3
  by_cases c1 : n ≤ 4096
  · by_cases c2 : m ≤ 4096
    · by_cases c3 : n2 ≤ 131072
      · by_cases c4 : n3 ≤ 262144
        · by_cases c5 : 0 ≤ k
          · by_cases c6 : k ≤ 4096
            · have hmul0 : 0 ≤ k * (m : Int) := Int.mul_nonneg c5 (by omega)
              have hmul1 : k * (m : Int) ≤ 16777216 := by
                have : k * (m : Int) ≤ 4096 * 4096 := Int.mul_le_mul c6 (by omega) (by omega) (by omega)
                omega
              by_cases c7 : k * (m : Int) ≤ 4194304
              · have q1 : decide ((4096 : Int) < (n : Int)) = false := by simp; omega
                have q2 : decide ((4096 : Int) < (m : Int)) = false := by simp; omega
                have q3 : decide ((131072 : Int) < (n2 : Int)) = false := by simp; omega
                have q4 : decide ((262144 : Int) < (n3 : Int)) = false := by simp; omega
                have q5 : decide (k < 0) = false := by simp; omega
                have q6 : decide ((4096 : Int) < k) = false := by simp; omega
                have q7 : decide ((4194304 : Int) < k * (m : Int)) = false := by simp; omega
                go_enter Try.func19, Try.ntmps19
                go_wp2
                go_loopg [11, 12] n (fun g s i wr => wr = w ∧ ∃ (j : Nat) (y : Int), j ≤ n ∧ n ≤ j + g ∧ i = .int .i64 j ∧ s = .int .i64 y)
                case atStart => exact ⟨rfl, 0, 0, Nat.zero_le _, by omega, rfl, rfl⟩
                case round =>
                  obtain ⟨rfl, j, y, hj, hg, rfl, rfl⟩ := hrel
                  by_cases hlt : j < n
                  · obtain ⟨b, off, x, rfl, hb, hc, rfl, hs⟩ := HV.out j hlt
                    clear HV HE
                    generalize T j = s at hc hs
                    go_wp2
                    all_goals first
                      | (go_ret; exact ⟨⟨_, rfl, fun h => by cases h⟩, Below.refl _ _⟩)
                      | (go_roundg (n - (j + 1)); (case measure => omega); (case rel => exact ⟨rfl, j + 1, _, by omega, by omega, by go_num, rfl⟩))
                  · have q8 : decide ((j : Int) < (n : Int)) = false := by simp; omega
                    go_wp2
                    go_loopg [11, 13] m (fun g s i wi => wi = wr ∧ ∃ (j : Nat) (y : Int), j ≤ m ∧ m ≤ j + g ∧ i = .int .i64 j ∧ s = .int .i64 y)
                    case atStart => exact ⟨rfl, 0, y, Nat.zero_le _, by omega, rfl, rfl⟩
                    case round =>
                      obtain ⟨rfl, j2, y2, hj2, hg2, rfl, rfl⟩ := hrel
                      by_cases hlt2 : j2 < m
                      · obtain ⟨b, off, x, rfl, hb, hc, rfl, hs⟩ := HE.out j2 hlt2
                        clear HV HE
                        generalize E j2 = s at hc hs
                        go_wp2
                        all_goals first
                          | (go_ret; exact ⟨⟨_, rfl, fun h => by cases h⟩, Below.refl _ _⟩)
                          | (go_roundg (m - (j2 + 1)); (case measure => omega); (case rel => exact ⟨rfl, j2 + 1, _, by omega, by omega, by go_num, rfl⟩))
                      · have q9 : decide ((j2 : Int) < (m : Int)) = false := by simp; omega
                        go_wp2
                        obtain ⟨w0, rfl⟩ : ∃ w0 : World, w0 = wr := ⟨_, rfl⟩
                        have hb0 : Below w0.heap.size w0 w0 := Below.refl _ _
                        go_loopg [14, 15] m (fun g i _ wi => ∃ j : Nat, j ≤ m ∧ m ≤ j + g ∧ i = .int .i64 j ∧ Below w0.heap.size w0 wi ∧ ∀ a, a < j → ∀ b, b < n → E a ≠ T b)
                        case atStart => exact ⟨0, Nat.zero_le _, by omega, rfl, hb0, fun a ha => absurd ha (Nat.not_lt_zero _)⟩
                        case round =>
                          obtain ⟨i, hi, hgi, rfl, hbi, hne⟩ := hrel
                          have HN : Hid (∀ a, a < i → ∀ b, b < n → E a ≠ T b) := hne
                          clear hne hb0
                          by_cases hlt3 : i < m
                          · obtain ⟨b, off, x, rfl, hb, hc, rfl, hs⟩ := HE.out i hlt3
                            clear HE
                            have hc1 : wr.cell? ⟨b, off + i, none⟩ = some (.string (E i)) := by rw [hbi.cell (p := ⟨b, off + i, none⟩) hb]; exact hc
                            generalize hEi : E i = s at hc hs hc1
                            have HEi : Hid (E i = s) := hEi
                            clear hEi
                            obtain ⟨w1, rfl⟩ : ∃ w1 : World, w1 = wr := ⟨_, rfl⟩
                            obtain ⟨g1, rfl⟩ : ∃ g1 : Nat, g1 = gk := ⟨_, rfl⟩
                            go_wp2
                            go_loopg [15] n (fun g i2 wi => ∃ q : Nat, q ≤ n ∧ n ≤ q + g ∧ i2 = .int .i64 q ∧ Below w0.heap.size w0 wi ∧ ∀ b, b < q → s ≠ T b)
                            case atStart => exact ⟨0, Nat.zero_le _, by omega, rfl, hbi, fun a ha => absurd ha (Nat.not_lt_zero _)⟩
                            case round =>
                              obtain ⟨q, hq, hgq, rfl, hbq, hnq⟩ := hrel
                              have HQ : Hid (∀ b, b < q → s ≠ T b) := hnq
                              clear hnq hc1
                              have hc2 : wr.cell? ⟨b, off + i, none⟩ = some (.string s) := by rw [hbq.cell (p := ⟨b, off + i, none⟩) hb]; exact hc
                              by_cases hlt4 : q < n
                              · obtain ⟨b2, off2, x, rfl, hb2, hd2, rfl, hs2⟩ := HV.out q hlt4
                                clear HV
                                have hd3 : wr.cell? ⟨b2, off2 + q, none⟩ = some (.string (T q)) := by rw [hbq.cell (p := ⟨b2, off2 + q, none⟩) hb2]; exact hd2
                                generalize hTq : T q = t at hd2 hd3 hs2
                                have HTq : Hid (T q = t) := hTq
                                clear hTq hd2
                                cases heq : (s.toList == t.toList)
                                · go_wp2
                                  go_quiet (fail)
                                  go_wp2
                                  go_roundg (n - (q + 1))
                                  case rel =>
                                    refine ⟨q + 1, by omega, by omega, by go_num, below_drewN hbq _, fun c hc' => ?_⟩
                                    by_cases ec : c = q
                                    · rw [ec, HTq.out]
                                      intro e
                                      rw [e] at heq
                                      simp at heq
                                    · exact HQ.out c (by omega)
                                  case measure => omega
                                · go_wp2
                                  go_quiet (fail)
                                  go_wp2
                                  go_ret
                                  exact ⟨⟨_, rfl, fun h => by cases h⟩, below_drewN hbq _⟩
                              · clear HV
                                go_wp2
                                go_roundg (m - (i + 1))
                                case rel =>
                                  refine ⟨i + 1, by omega, by omega, by go_num, hbq, fun c hc' b hb' => ?_⟩
                                  by_cases ec : c = i
                                  · rw [ec, HEi.out]
                                    exact HQ.out b (by omega)
                                  · exact HN.out c (by omega) b hb'
                                case measure => omega
                          · clear HV HE
                            obtain rfl : i = m := by omega
                            go_wp2
                            go_ret
                            exact ⟨⟨_, rfl, fun _ => ⟨c1, c2, c3, c4, c5, c6, HN.out⟩⟩, hbi⟩
              · go_enter Try.func19, Try.ntmps19
                go_wp2
                go_ret
                first | exact ⟨Or.inr rfl, Below.refl _ _⟩ | exact ⟨rfl, Below.refl _ _⟩ | exact ⟨⟨_, rfl, fun h => by cases h⟩, Below.refl _ _⟩
            · go_enter Try.func19, Try.ntmps19
              go_wp2
              go_ret
              first | exact ⟨Or.inr rfl, Below.refl _ _⟩ | exact ⟨rfl, Below.refl _ _⟩ | exact ⟨⟨_, rfl, fun h => by cases h⟩, Below.refl _ _⟩
          · go_enter Try.func19, Try.ntmps19
            go_wp2
            go_ret
            first | exact ⟨Or.inr rfl, Below.refl _ _⟩ | exact ⟨rfl, Below.refl _ _⟩ | exact ⟨⟨_, rfl, fun h => by cases h⟩, Below.refl _ _⟩
        · go_enter Try.func19, Try.ntmps19
          go_wp2
          go_ret
          first | exact ⟨Or.inr rfl, Below.refl _ _⟩ | exact ⟨rfl, Below.refl _ _⟩ | exact ⟨⟨_, rfl, fun h => by cases h⟩, Below.refl _ _⟩
      · go_enter Try.func19, Try.ntmps19
        go_wp2
        go_ret
        first | exact ⟨Or.inr rfl, Below.refl _ _⟩ | exact ⟨rfl, Below.refl _ _⟩ | exact ⟨⟨_, rfl, fun h => by cases h⟩, Below.refl _ _⟩
    · go_enter Try.func19, Try.ntmps19
      go_wp2
      go_ret
      first | exact ⟨Or.inr rfl, Below.refl _ _⟩ | exact ⟨rfl, Below.refl _ _⟩ | exact ⟨⟨_, rfl, fun h => by cases h⟩, Below.refl _ _⟩
  · go_enter Try.func19, Try.ntmps19
    go_wp2
    go_ret
    first | exact ⟨Or.inr rfl, Below.refl _ _⟩ | exact ⟨rfl, Below.refl _ _⟩ | exact ⟨⟨_, rfl, fun h => by cases h⟩, Below.refl _ _⟩
end Go.Proofs.Qxb6608650a
