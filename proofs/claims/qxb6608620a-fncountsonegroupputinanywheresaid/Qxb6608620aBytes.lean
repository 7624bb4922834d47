/-
  The guard on sizes: where it says yes, the lengths are small.
-/
import Derived.Test.Qxb6608620aBase
namespace Go.Proofs.Qxb6608620a
open Go.RowKit

/-- L 0 + .. + L (k - 1) -/
def sumTo (L : Nat → Nat) : Nat → Nat
  | 0 => 0
  | k + 1 => sumTo L k + L k
theorem sumTo_succ (L : Nat → Nat) (k : Nat) : sumTo L (k + 1) = sumTo L k + L k := rfl
theorem sumTo_mono (L : Nat → Nat) {i j : Nat} (h : i ≤ j) : sumTo L i ≤ sumTo L j := by
  induction j with
  | zero => rw [Nat.le_zero.1 h]; exact Nat.le_refl _
  | succ j ih =>
    by_cases e : i = j + 1
    · rw [e]; exact Nat.le_refl _
    · have := ih (by omega); rw [sumTo_succ]; omega
theorem sumTo_ge (L : Nat → Nat) {i n : Nat} (h : i < n) : L i ≤ sumTo L n := by
  have := sumTo_mono L (show i + 1 ≤ n from h); rw [sumTo_succ] at this; omega

set_option maxRecDepth 100000 in
set_option maxHeartbeats 2000000 in
theorem bytes5_any (v u : Value) (n m : Nat) (L : Nat → Nat) (i0 i1 : Int) (w : World) (h : Rows2 w v n L) (hu : Strs w u m) :
    Calls Try.prog 5 #[v, u, .int .i64 i0, .int .i64 i1] w fun e w' => (∃ b, e = .returned (.bool b) ∧ (b = true → n ≤ 1048576 ∧ m ≤ 1048576 ∧ sumTo L n ≤ 1048576)) ∧ w' = w := by
  obtain ⟨a, cap, rfl, h1, h2, h3⟩ := h
  obtain ⟨au, capu, rfl, u1, u2, u3⟩ := hu
  unfold maxLen at h2 u2
  by_cases hn : n ≤ 1048576
  · have d1 : decide ((1048576 : Int) < (n : Int)) = false := by simp; omega
    have HU : Hid (∀ j, j < m → ∃ b off x, au = some ⟨b, off, none⟩ ∧ b < w.heap.size ∧ w.cell? ⟨b, off + j, none⟩ = some x ∧ StrE x j) := u3
    clear u3
    have HV : Hid (∀ j, j < n → ∃ b off x, a = some ⟨b, off, none⟩ ∧ b < w.heap.size ∧ w.cell? ⟨b, off + j, none⟩ = some x ∧ Strs w x (L j)) := h3
    clear h3
    go_enter Try.func5, Try.ntmps5
    go_wp2
    go_loopg [9, 10, 11] n (fun g s i _ wr => wr = w ∧ ∃ (k y : Nat), k ≤ n ∧ n ≤ k + g ∧ i = .int .i64 k ∧ s = .int .i64 y ∧ y ≤ 1048576 ∧ sumTo L k ≤ y)
    case atStart => exact ⟨rfl, 0, n, Nat.zero_le _, by omega, rfl, rfl, hn, Nat.zero_le _⟩
    case round =>
      obtain ⟨rfl, k, y, hk, hg, rfl, rfl, hy, hsum⟩ := hrel
      by_cases hlt : k < n
      · obtain ⟨b, off, x, rfl, hb, hc, a2, cap2, rfl, g1, g2, g3⟩ := HV.out k hlt
        clear HV
        unfold maxLen at g2
        have HG : Hid (∀ j, j < L k → ∃ b off x, a2 = some ⟨b, off, none⟩ ∧ b < wr.heap.size ∧ wr.cell? ⟨b, off + j, none⟩ = some x ∧ StrE x j) := g3
        clear g3
        by_cases hL : L k ≤ 1048576
        · by_cases hyL : y + L k ≤ 1048576
          · have d3 : decide ((1048576 : Int) < (L k : Int)) = false := by simp; omega
            have d4 : decide ((1048576 : Int) < (y : Int) + (L k : Int)) = false := by simp; omega
            go_wp2
            go_loopg [9, 11] (L k) (fun g s i wr' => wr' = wr ∧ ∃ (k2 y2 : Nat), k2 ≤ L k ∧ L k ≤ k2 + g ∧ i = .int .i64 k2 ∧ s = .int .i64 y2 ∧ y2 ≤ 1048576 ∧ sumTo L (k + 1) ≤ y2)
            case atStart => exact ⟨rfl, 0, y + L k, Nat.zero_le _, by omega, rfl, by go_num, hyL, by rw [sumTo_succ]; omega⟩
            case round =>
              obtain ⟨rfl, k2, y2, hk2, hg2, rfl, rfl, hy2, hsum2⟩ := hrel
              by_cases hlt2 : k2 < L k
              · obtain ⟨b2, off2, x, rfl, hb2, hc2, s, rfl, hs⟩ := HG.out k2 hlt2
                clear HG
                unfold maxLen at hs
                by_cases hs1 : s.size ≤ 1048576
                · by_cases hs2 : y2 + s.size ≤ 1048576
                  · go_wp2
                    go_roundg (L k - (k2 + 1))
                    case rel => exact ⟨rfl, k2 + 1, y2 + s.size, by omega, by omega, by go_num, by go_num, hs2, by omega⟩
                    case measure => omega
                  · go_wp2
                    go_ret
                    exact ⟨⟨_, rfl, fun h => by cases h⟩, rfl⟩
                · go_wp2
                  go_ret
                  exact ⟨⟨_, rfl, fun h => by cases h⟩, rfl⟩
              · clear HG
                go_wp2
                go_roundg (n - (k + 1))
                case rel => exact ⟨rfl, k + 1, y2, by omega, by omega, by go_num, rfl, hy2, hsum2⟩
                case measure => omega
          · go_wp2
            go_ret
            exact ⟨⟨_, rfl, fun h => by cases h⟩, rfl⟩
        · go_wp2
          go_ret
          exact ⟨⟨_, rfl, fun h => by cases h⟩, rfl⟩
      · clear HV
        have hfin : sumTo L n ≤ 1048576 := by rw [show n = k from by omega]; omega
        by_cases hm : m ≤ 1048576
        · by_cases hym : y + m ≤ 1048576
          · have d3 : decide ((1048576 : Int) < (m : Int)) = false := by simp; omega
            have d4 : decide ((1048576 : Int) < (y : Int) + (m : Int)) = false := by simp; omega
            have d5 : decide ((k : Int) < (n : Int)) = false := by simp; omega
            go_wp2
            go_loopg [9, 12] m (fun g s i wr' => wr' = wr ∧ ∃ (k2 y2 : Nat), k2 ≤ m ∧ m ≤ k2 + g ∧ i = .int .i64 k2 ∧ s = .int .i64 y2 ∧ y2 ≤ 1048576)
            case atStart => exact ⟨rfl, 0, y + m, Nat.zero_le _, by omega, rfl, by go_num, hym⟩
            case round =>
              obtain ⟨rfl, k2, y2, hk2, hg2, rfl, rfl, hy2⟩ := hrel
              by_cases hlt2 : k2 < m
              · obtain ⟨b2, off2, x, rfl, hb2, hc2, s, rfl, hs⟩ := HU.out k2 hlt2
                clear HU
                unfold maxLen at hs
                by_cases hs1 : s.size ≤ 1048576
                · by_cases hs2 : y2 + s.size ≤ 1048576
                  · go_wp2
                    go_roundg (m - (k2 + 1))
                    case rel => exact ⟨rfl, k2 + 1, y2 + s.size, by omega, by omega, by go_num, by go_num, hs2⟩
                    case measure => omega
                  · go_wp2
                    go_ret
                    exact ⟨⟨_, rfl, fun h => by cases h⟩, rfl⟩
                · go_wp2
                  go_ret
                  exact ⟨⟨_, rfl, fun h => by cases h⟩, rfl⟩
              · clear HU
                go_wp2
                go_ret
                exact ⟨⟨_, rfl, fun _ => ⟨hn, hm, hfin⟩⟩, rfl⟩
          · go_wp2
            go_ret
            exact ⟨⟨_, rfl, fun h => by cases h⟩, rfl⟩
        · go_wp2
          go_ret
          exact ⟨⟨_, rfl, fun h => by cases h⟩, rfl⟩
  · clear h3 u3
    go_enter Try.func5, Try.ntmps5
    go_wp2
    go_ret
    exact ⟨⟨_, rfl, fun h => by cases h⟩, rfl⟩

set_option maxRecDepth 100000 in
set_option maxHeartbeats 2000000 in
theorem bytes11_any (v u x : Value) (n m p : Nat) (L : Nat → Nat) (i0 : Int) (w : World) (h : Rows2 w v n L) (hu : Strs w u m) (hx : Strs w x p) :
    Calls Try.prog 11 #[v, u, x, .int .i64 i0] w fun e w' => (∃ b, e = .returned (.bool b) ∧ (b = true → n ≤ 1048576 ∧ m ≤ 1048576 ∧ p ≤ 1048576 ∧ sumTo L n + p ≤ 1048576)) ∧ w' = w := by
  obtain ⟨a, cap, rfl, h1, h2, h3⟩ := h
  obtain ⟨au, capu, rfl, u1, u2, u3⟩ := hu
  obtain ⟨ax, capx, rfl, x1, x2, x3⟩ := hx
  unfold maxLen at h2 u2 x2
  by_cases hn : n ≤ 1048576
  · have d1 : decide ((1048576 : Int) < (n : Int)) = false := by simp; omega
    have HU : Hid (∀ j, j < m → ∃ b off x, au = some ⟨b, off, none⟩ ∧ b < w.heap.size ∧ w.cell? ⟨b, off + j, none⟩ = some x ∧ StrE x j) := u3
    clear u3
    have HX : Hid (∀ j, j < p → ∃ b off x, ax = some ⟨b, off, none⟩ ∧ b < w.heap.size ∧ w.cell? ⟨b, off + j, none⟩ = some x ∧ StrE x j) := x3
    clear x3
    have HV : Hid (∀ j, j < n → ∃ b off x, a = some ⟨b, off, none⟩ ∧ b < w.heap.size ∧ w.cell? ⟨b, off + j, none⟩ = some x ∧ Strs w x (L j)) := h3
    clear h3
    go_enter Try.func11, Try.ntmps11
    go_wp2
    go_loopg [9, 10, 11] n (fun g s i _ wr => wr = w ∧ ∃ (k y : Nat), k ≤ n ∧ n ≤ k + g ∧ i = .int .i64 k ∧ s = .int .i64 y ∧ y ≤ 1048576 ∧ sumTo L k ≤ y)
    case atStart => exact ⟨rfl, 0, n, Nat.zero_le _, by omega, rfl, rfl, hn, Nat.zero_le _⟩
    case round =>
      obtain ⟨rfl, k, y, hk, hg, rfl, rfl, hy, hsum⟩ := hrel
      by_cases hlt : k < n
      · obtain ⟨b, off, x, rfl, hb, hc, a2, cap2, rfl, g1, g2, g3⟩ := HV.out k hlt
        clear HV
        unfold maxLen at g2
        have HG : Hid (∀ j, j < L k → ∃ b off x, a2 = some ⟨b, off, none⟩ ∧ b < wr.heap.size ∧ wr.cell? ⟨b, off + j, none⟩ = some x ∧ StrE x j) := g3
        clear g3
        by_cases hL : L k ≤ 1048576
        · by_cases hyL : y + L k ≤ 1048576
          · have d3 : decide ((1048576 : Int) < (L k : Int)) = false := by simp; omega
            have d4 : decide ((1048576 : Int) < (y : Int) + (L k : Int)) = false := by simp; omega
            go_wp2
            go_loopg [9, 11] (L k) (fun g s i wr' => wr' = wr ∧ ∃ (k2 y2 : Nat), k2 ≤ L k ∧ L k ≤ k2 + g ∧ i = .int .i64 k2 ∧ s = .int .i64 y2 ∧ y2 ≤ 1048576 ∧ sumTo L (k + 1) ≤ y2)
            case atStart => exact ⟨rfl, 0, y + L k, Nat.zero_le _, by omega, rfl, by go_num, hyL, by rw [sumTo_succ]; omega⟩
            case round =>
              obtain ⟨rfl, k2, y2, hk2, hg2, rfl, rfl, hy2, hsum2⟩ := hrel
              by_cases hlt2 : k2 < L k
              · obtain ⟨b2, off2, x, rfl, hb2, hc2, s, rfl, hs⟩ := HG.out k2 hlt2
                clear HG
                unfold maxLen at hs
                by_cases hs1 : s.size ≤ 1048576
                · by_cases hs2 : y2 + s.size ≤ 1048576
                  · go_wp2
                    go_roundg (L k - (k2 + 1))
                    case rel => exact ⟨rfl, k2 + 1, y2 + s.size, by omega, by omega, by go_num, by go_num, hs2, by omega⟩
                    case measure => omega
                  · go_wp2
                    go_ret
                    exact ⟨⟨_, rfl, fun h => by cases h⟩, rfl⟩
                · go_wp2
                  go_ret
                  exact ⟨⟨_, rfl, fun h => by cases h⟩, rfl⟩
              · clear HG
                go_wp2
                go_roundg (n - (k + 1))
                case rel => exact ⟨rfl, k + 1, y2, by omega, by omega, by go_num, rfl, hy2, hsum2⟩
                case measure => omega
          · go_wp2
            go_ret
            exact ⟨⟨_, rfl, fun h => by cases h⟩, rfl⟩
        · go_wp2
          go_ret
          exact ⟨⟨_, rfl, fun h => by cases h⟩, rfl⟩
      · clear HV
        have hfin : sumTo L n ≤ y := by rw [show n = k from by omega]; omega
        by_cases hm : m ≤ 1048576
        · by_cases hym : y + m ≤ 1048576
          · have d3 : decide ((1048576 : Int) < (m : Int)) = false := by simp; omega
            have d4 : decide ((1048576 : Int) < (y : Int) + (m : Int)) = false := by simp; omega
            have d5 : decide ((k : Int) < (n : Int)) = false := by simp; omega
            go_wp2
            go_loopg [9, 12] m (fun g s i wr' => wr' = wr ∧ ∃ (k2 y2 : Nat), k2 ≤ m ∧ m ≤ k2 + g ∧ i = .int .i64 k2 ∧ s = .int .i64 y2 ∧ y2 ≤ 1048576 ∧ sumTo L n ≤ y2)
            case atStart => exact ⟨rfl, 0, y + m, Nat.zero_le _, by omega, rfl, by go_num, hym, by omega⟩
            case round =>
              obtain ⟨rfl, k2, y2, hk2, hg2, rfl, rfl, hy2, hsum2⟩ := hrel
              by_cases hlt2 : k2 < m
              · obtain ⟨b2, off2, x, rfl, hb2, hc2, s, rfl, hs⟩ := HU.out k2 hlt2
                clear HU
                unfold maxLen at hs
                by_cases hs1 : s.size ≤ 1048576
                · by_cases hs2 : y2 + s.size ≤ 1048576
                  · go_wp2
                    go_roundg (m - (k2 + 1))
                    case rel => exact ⟨rfl, k2 + 1, y2 + s.size, by omega, by omega, by go_num, by go_num, hs2, by omega⟩
                    case measure => omega
                  · go_wp2
                    go_ret
                    exact ⟨⟨_, rfl, fun h => by cases h⟩, rfl⟩
                · go_wp2
                  go_ret
                  exact ⟨⟨_, rfl, fun h => by cases h⟩, rfl⟩
              · clear HU
                by_cases hp : p ≤ 1048576
                · by_cases hyp : y2 + p ≤ 1048576
                  · have d6 : decide ((1048576 : Int) < (p : Int)) = false := by simp; omega
                    have d7 : decide ((1048576 : Int) < (y2 : Int) + (p : Int)) = false := by simp; omega
                    have d8 : decide ((k2 : Int) < (m : Int)) = false := by simp; omega
                    go_wp2
                    go_loopg [9, 13] p (fun g s i wr' => wr' = wr ∧ ∃ (k3 y3 : Nat), k3 ≤ p ∧ p ≤ k3 + g ∧ i = .int .i64 k3 ∧ s = .int .i64 y3 ∧ y3 ≤ 1048576)
                    case atStart => exact ⟨rfl, 0, y2 + p, Nat.zero_le _, by omega, rfl, by go_num, hyp⟩
                    case round =>
                      obtain ⟨rfl, k3, y3, hk3, hg3, rfl, rfl, hy3⟩ := hrel
                      by_cases hlt3 : k3 < p
                      · obtain ⟨b3, off3, x, rfl, hb3, hc3, s, rfl, hs⟩ := HX.out k3 hlt3
                        clear HX
                        unfold maxLen at hs
                        by_cases hs1 : s.size ≤ 1048576
                        · by_cases hs2 : y3 + s.size ≤ 1048576
                          · go_wp2
                            go_roundg (p - (k3 + 1))
                            case rel => exact ⟨rfl, k3 + 1, y3 + s.size, by omega, by omega, by go_num, by go_num, hs2⟩
                            case measure => omega
                          · go_wp2
                            go_ret
                            exact ⟨⟨_, rfl, fun h => by cases h⟩, rfl⟩
                        · go_wp2
                          go_ret
                          exact ⟨⟨_, rfl, fun h => by cases h⟩, rfl⟩
                      · clear HX
                        go_wp2
                        go_ret
                        exact ⟨⟨_, rfl, fun _ => ⟨hn, hm, hp, by omega⟩⟩, rfl⟩
                  · go_wp2
                    go_ret
                    exact ⟨⟨_, rfl, fun h => by cases h⟩, rfl⟩
                · go_wp2
                  go_ret
                  exact ⟨⟨_, rfl, fun h => by cases h⟩, rfl⟩
          · go_wp2
            go_ret
            exact ⟨⟨_, rfl, fun h => by cases h⟩, rfl⟩
        · go_wp2
          go_ret
          exact ⟨⟨_, rfl, fun h => by cases h⟩, rfl⟩
  · clear h3 u3 x3
    go_enter Try.func11, Try.ntmps11
    go_wp2
    go_ret
    exact ⟨⟨_, rfl, fun h => by cases h⟩, rfl⟩
end Go.Proofs.Qxb6608620a
