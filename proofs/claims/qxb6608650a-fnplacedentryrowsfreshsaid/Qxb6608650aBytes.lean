/-
  The guards on sizes and names.
-/
import Derived.Test.Qxb6608650aBase
namespace Go.Proofs.Qxb6608650a
open Go.RowKit

set_option maxRecDepth 100000 in
set_option maxHeartbeats 2000000 in
theorem bytes18_any (v v2 v3 v4 : Value) (n n2 n3 m : Nat) (T E : Nat → ByteArray) (k : Int) (w : World) (h : Strs w v n T) (hr : Ints .i64 w v2 n2) (hd : Ints .i32 w v3 n3) (he : Strs w v4 m E) :
    Calls Try.prog 18 #[v, .int .i64 k, v2, v3, v4] w fun e w' => (∃ b, e = .returned (.bool b)) ∧ w' = w := by
  obtain ⟨a, cap, rfl, h1, h2, h3⟩ := h
  obtain ⟨a2, cap2, rfl, r1, r2, _⟩ := hr
  obtain ⟨a3, cap3, rfl, d1, d2, _⟩ := hd
  obtain ⟨a4, cap4, rfl, e1, e2, e3⟩ := he
  unfold maxLen at h2 r2 d2 e2
  have HV : Hid (∀ j, j < n → ∃ b off x, a = some ⟨b, off, none⟩ ∧ b < w.heap.size ∧ w.cell? ⟨b, off + j, none⟩ = some x ∧ x = .string (T j) ∧ (T j).size ≤ maxLen) := h3
  have HE : Hid (∀ j, j < m → ∃ b off x, a4 = some ⟨b, off, none⟩ ∧ b < w.heap.size ∧ w.cell? ⟨b, off + j, none⟩ = some x ∧ x = .string (E j) ∧ (E j).size ≤ maxLen) := e3
  clear h3 e3
  by_cases hn : n ≤ 1048576
  · have q1 : decide ((1048576 : Int) < (n : Int)) = false := by simp; omega
    go_enter Try.func18, Try.ntmps18
    go_wp2
    go_loopg [11, 12] n (fun g s i wr => wr = w ∧ ∃ (j y : Nat), j ≤ n ∧ n ≤ j + g ∧ i = .int .i64 j ∧ s = .int .i64 y ∧ y ≤ 1048576)
    case atStart => exact ⟨rfl, 0, n, Nat.zero_le _, by omega, rfl, rfl, hn⟩
    case round =>
      obtain ⟨rfl, j, y, hj, hg, rfl, rfl, hy⟩ := hrel
      by_cases hlt : j < n
      · obtain ⟨b, off, x, rfl, hb, hc, rfl, hs⟩ := HV.out j hlt
        clear HV
        generalize T j = s at hc hs
        unfold maxLen at hs
        by_cases hs1 : s.size ≤ 1048576
        · by_cases hs2 : y + s.size ≤ 1048576
          · go_wp2
            go_roundg (n - (j + 1))
            case rel => exact ⟨rfl, j + 1, y + s.size, by omega, by omega, by go_num, by go_num, hs2⟩
            case measure => omega
          · go_wp2
            go_ret
            exact ⟨⟨_, rfl⟩, rfl⟩
        · go_wp2
          go_ret
          exact ⟨⟨_, rfl⟩, rfl⟩
      · clear HV
        have q2 : decide ((j : Int) < (n : Int)) = false := by simp; omega
        by_cases c1 : n2 ≤ 1048576
        · by_cases c2 : y + n2 ≤ 1048576
          · by_cases c3 : n3 ≤ 1048576
            · by_cases c4 : y + n2 + n3 ≤ 1048576
              · by_cases c5 : m ≤ 1048576
                · by_cases c6 : y + n2 + n3 + m ≤ 1048576
                  · have q3 : decide ((1048576 : Int) < (n2 : Int)) = false := by simp; omega
                    have q4 : decide ((1048576 : Int) < (y : Int) + (n2 : Int)) = false := by simp; omega
                    have q5 : decide ((1048576 : Int) < (n3 : Int)) = false := by simp; omega
                    have q6 : decide ((1048576 : Int) < (y : Int) + (n2 : Int) + (n3 : Int)) = false := by simp; omega
                    have q7 : decide ((1048576 : Int) < (m : Int)) = false := by simp; omega
                    have q8 : decide ((1048576 : Int) < (y : Int) + (n2 : Int) + (n3 : Int) + (m : Int)) = false := by simp; omega
                    go_wp2
                    go_loopg [11, 13] m (fun g s i wi => wi = wr ∧ ∃ (j y : Nat), j ≤ m ∧ m ≤ j + g ∧ i = .int .i64 j ∧ s = .int .i64 y ∧ y ≤ 1048576)
                    case atStart => exact ⟨rfl, 0, y + n2 + n3 + m, Nat.zero_le _, by omega, rfl, by go_num, c6⟩
                    case round =>
                      obtain ⟨rfl, i, z, hi, hgi, rfl, rfl, hz⟩ := hrel
                      by_cases hlt2 : i < m
                      · obtain ⟨b, off, x, rfl, hb, hc, rfl, hs⟩ := HE.out i hlt2
                        clear HE
                        generalize E i = s at hc hs
                        unfold maxLen at hs
                        by_cases hs1 : s.size ≤ 1048576
                        · by_cases hs2 : z + s.size ≤ 1048576
                          · go_wp2
                            go_roundg (m - (i + 1))
                            case rel => exact ⟨rfl, i + 1, z + s.size, by omega, by omega, by go_num, by go_num, hs2⟩
                            case measure => omega
                          · go_wp2
                            go_ret
                            exact ⟨⟨_, rfl⟩, rfl⟩
                        · go_wp2
                          go_ret
                          exact ⟨⟨_, rfl⟩, rfl⟩
                      · clear HE
                        go_wp2
                        go_ret
                        exact ⟨⟨_, rfl⟩, rfl⟩
                  · go_wp2
                    go_ret
                    exact ⟨⟨_, rfl⟩, rfl⟩
                · go_wp2
                  go_ret
                  exact ⟨⟨_, rfl⟩, rfl⟩
              · go_wp2
                go_ret
                exact ⟨⟨_, rfl⟩, rfl⟩
            · go_wp2
              go_ret
              exact ⟨⟨_, rfl⟩, rfl⟩
          · go_wp2
            go_ret
            exact ⟨⟨_, rfl⟩, rfl⟩
        · go_wp2
          go_ret
          exact ⟨⟨_, rfl⟩, rfl⟩
  · clear HV HE
    go_enter Try.func18, Try.ntmps18
    go_wp2
    go_ret
    exact ⟨Or.inl rfl, rfl⟩

set_option maxRecDepth 100000 in
set_option maxHeartbeats 2000000 in
theorem bytes24_any (v v2 v3 v4 : Value) (n n2 n3 m : Nat) (T E : Nat → ByteArray) (k : Int) (w : World) (h : Strs w v n T) (hr : Ints .i64 w v2 n2) (hd : Ints .i32 w v3 n3) (he : Strs w v4 m E) :
    Calls Try.prog 24 #[v, .int .i64 k, v2, v3, v4] w fun e w' => (∃ b, e = .returned (.bool b)) ∧ w' = w := by
  obtain ⟨a, cap, rfl, h1, h2, h3⟩ := h
  obtain ⟨a2, cap2, rfl, r1, r2, _⟩ := hr
  obtain ⟨a3, cap3, rfl, d1, d2, _⟩ := hd
  obtain ⟨a4, cap4, rfl, e1, e2, e3⟩ := he
  unfold maxLen at h2 r2 d2 e2
  have HV : Hid (∀ j, j < n → ∃ b off x, a = some ⟨b, off, none⟩ ∧ b < w.heap.size ∧ w.cell? ⟨b, off + j, none⟩ = some x ∧ x = .string (T j) ∧ (T j).size ≤ maxLen) := h3
  have HE : Hid (∀ j, j < m → ∃ b off x, a4 = some ⟨b, off, none⟩ ∧ b < w.heap.size ∧ w.cell? ⟨b, off + j, none⟩ = some x ∧ x = .string (E j) ∧ (E j).size ≤ maxLen) := e3
  clear h3 e3
  by_cases hn : n ≤ 1048576
  · have q1 : decide ((1048576 : Int) < (n : Int)) = false := by simp; omega
    go_enter Try.func24, Try.ntmps24
    go_wp2
    go_loopg [11, 12] n (fun g s i wr => wr = w ∧ ∃ (j y : Nat), j ≤ n ∧ n ≤ j + g ∧ i = .int .i64 j ∧ s = .int .i64 y ∧ y ≤ 1048576)
    case atStart => exact ⟨rfl, 0, n, Nat.zero_le _, by omega, rfl, rfl, hn⟩
    case round =>
      obtain ⟨rfl, j, y, hj, hg, rfl, rfl, hy⟩ := hrel
      by_cases hlt : j < n
      · obtain ⟨b, off, x, rfl, hb, hc, rfl, hs⟩ := HV.out j hlt
        clear HV
        generalize T j = s at hc hs
        unfold maxLen at hs
        by_cases hs1 : s.size ≤ 1048576
        · by_cases hs2 : y + s.size ≤ 1048576
          · go_wp2
            go_roundg (n - (j + 1))
            case rel => exact ⟨rfl, j + 1, y + s.size, by omega, by omega, by go_num, by go_num, hs2⟩
            case measure => omega
          · go_wp2
            go_ret
            exact ⟨⟨_, rfl⟩, rfl⟩
        · go_wp2
          go_ret
          exact ⟨⟨_, rfl⟩, rfl⟩
      · clear HV
        have q2 : decide ((j : Int) < (n : Int)) = false := by simp; omega
        by_cases c1 : n2 ≤ 1048576
        · by_cases c2 : y + n2 ≤ 1048576
          · by_cases c3 : n3 ≤ 1048576
            · by_cases c4 : y + n2 + n3 ≤ 1048576
              · by_cases c5 : m ≤ 1048576
                · by_cases c6 : y + n2 + n3 + m ≤ 1048576
                  · have q3 : decide ((1048576 : Int) < (n2 : Int)) = false := by simp; omega
                    have q4 : decide ((1048576 : Int) < (y : Int) + (n2 : Int)) = false := by simp; omega
                    have q5 : decide ((1048576 : Int) < (n3 : Int)) = false := by simp; omega
                    have q6 : decide ((1048576 : Int) < (y : Int) + (n2 : Int) + (n3 : Int)) = false := by simp; omega
                    have q7 : decide ((1048576 : Int) < (m : Int)) = false := by simp; omega
                    have q8 : decide ((1048576 : Int) < (y : Int) + (n2 : Int) + (n3 : Int) + (m : Int)) = false := by simp; omega
                    go_wp2
                    go_loopg [11, 13] m (fun g s i wi => wi = wr ∧ ∃ (j y : Nat), j ≤ m ∧ m ≤ j + g ∧ i = .int .i64 j ∧ s = .int .i64 y ∧ y ≤ 1048576)
                    case atStart => exact ⟨rfl, 0, y + n2 + n3 + m, Nat.zero_le _, by omega, rfl, by go_num, c6⟩
                    case round =>
                      obtain ⟨rfl, i, z, hi, hgi, rfl, rfl, hz⟩ := hrel
                      by_cases hlt2 : i < m
                      · obtain ⟨b, off, x, rfl, hb, hc, rfl, hs⟩ := HE.out i hlt2
                        clear HE
                        generalize E i = s at hc hs
                        unfold maxLen at hs
                        by_cases hs1 : s.size ≤ 1048576
                        · by_cases hs2 : z + s.size ≤ 1048576
                          · go_wp2
                            go_roundg (m - (i + 1))
                            case rel => exact ⟨rfl, i + 1, z + s.size, by omega, by omega, by go_num, by go_num, hs2⟩
                            case measure => omega
                          · go_wp2
                            go_ret
                            exact ⟨⟨_, rfl⟩, rfl⟩
                        · go_wp2
                          go_ret
                          exact ⟨⟨_, rfl⟩, rfl⟩
                      · clear HE
                        go_wp2
                        go_ret
                        exact ⟨⟨_, rfl⟩, rfl⟩
                  · go_wp2
                    go_ret
                    exact ⟨⟨_, rfl⟩, rfl⟩
                · go_wp2
                  go_ret
                  exact ⟨⟨_, rfl⟩, rfl⟩
              · go_wp2
                go_ret
                exact ⟨⟨_, rfl⟩, rfl⟩
            · go_wp2
              go_ret
              exact ⟨⟨_, rfl⟩, rfl⟩
          · go_wp2
            go_ret
            exact ⟨⟨_, rfl⟩, rfl⟩
        · go_wp2
          go_ret
          exact ⟨⟨_, rfl⟩, rfl⟩
  · clear HV HE
    go_enter Try.func24, Try.ntmps24
    go_wp2
    go_ret
    exact ⟨Or.inl rfl, rfl⟩

end Go.Proofs.Qxb6608650a
