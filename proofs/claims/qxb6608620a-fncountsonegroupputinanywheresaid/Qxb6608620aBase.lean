/-
  What the walks are told of memory: a slice that is read; a block with room.
-/
import Derived.Test.Qxb6608620aProg
import Derived.WalkKit
import Derived.WalkSpells
import Derived.WalkLawsBesides
import Derived.Deep.LoopGhost
namespace Go.Proofs.Qxb6608620a
open Go.RowKit

/-- 'v' is a slice of n elements of one cell each; element j holds an x with 'E x j'. -/
def Row (w : World) (v : Value) (n : Nat) (E : Value → Nat → Prop) : Prop :=
  ∃ a cap, v = .slice a n cap ∧ n ≤ cap ∧ cap ≤ maxLen ∧ ∀ j, j < n → ∃ b off x, a = some ⟨b, off, none⟩ ∧ b < w.heap.size ∧ w.cell? ⟨b, off + j, none⟩ = some x ∧ E x j
def StrE (x : Value) (_ : Nat) : Prop := ∃ s : ByteArray, x = .string s ∧ s.size ≤ maxLen
/-- a slice of strings -/
def Strs (w : World) (v : Value) (n : Nat) : Prop := Row w v n StrE
/-- a slice of slices of strings, the j-th of L j strings -/
def Rows2 (w : World) (v : Value) (n : Nat) (L : Nat → Nat) : Prop := Row w v n fun x j => Strs w x (L j)

theorem Row.below {w w' : World} {v : Value} {n : Nat} {E E' : Value → Nat → Prop} (h : Row w v n E) (hb : Below w.heap.size w w') (hE : ∀ x j, E x j → E' x j) : Row w' v n E' := by
  obtain ⟨a, cap, hv, h1, h2, h3⟩ := h
  refine ⟨a, cap, hv, h1, h2, fun j hj => ?_⟩
  obtain ⟨b, off, x, ha, hlt, hc, hx⟩ := h3 j hj
  exact ⟨b, off, x, ha, Nat.lt_of_lt_of_le hlt hb.size, by rw [hb.cell (p := ⟨b, off + j, none⟩) hlt]; exact hc, hE x j hx⟩
theorem Strs.below {w w' : World} {v : Value} {n : Nat} (h : Strs w v n) (hb : Below w.heap.size w w') : Strs w' v n := Row.below h hb fun _ _ h => h
theorem Rows2.below {w w' : World} {v : Value} {n : Nat} {L : Nat → Nat} (h : Rows2 w v n L) (hb : Below w.heap.size w w') : Rows2 w' v n L := Row.below h hb fun _ _ h => Strs.below h hb
theorem below2 {a b c : World} (h1 : Below a.heap.size a b) (h2 : Below b.heap.size b c) : Below a.heap.size a c := h1.trans (h2.mono h1.size)

set_option maxHeartbeats 1000000 in
theorem stringsSize_any (v : Value) (n : Nat) (z : Int) (w : World) (h : Strs w v n) :
    Calls Try.prog 6 #[v, .int .i64 z] w fun e w' => (∃ z', e = .returned (.int .i64 z')) ∧ w' = w := by
  obtain ⟨a, cap, rfl, h1, h2, h3⟩ := h
  unfold maxLen at h2
  go_enter Try.func6, Try.ntmps6
  go_wp2
  go_loopg [1, 5] n (fun g s i wr => wr = w ∧ ∃ (k : Nat) (y : Int), k ≤ n ∧ n ≤ k + g ∧ i = .int .i64 k ∧ s = .int .i64 y)
  case atStart => exact ⟨rfl, 0, z, Nat.zero_le _, by omega, rfl, rfl⟩
  case round =>
    obtain ⟨rfl, k, y, hk, hg, rfl, rfl⟩ := hrel
    by_cases hlt : k < n
    · obtain ⟨b, off, x, rfl, hb, hc, s, rfl, hs⟩ := h3 k hlt
      clear h3
      by_cases hy : y ≤ 1048576
      · go_wp2
        go_roundg (n - (k + 1))
        case rel => exact ⟨rfl, k + 1, _, by omega, by omega, by go_num, rfl⟩
        case measure => omega
      · go_wp2
        go_ret
        exact ⟨⟨_, rfl⟩, rfl⟩
    · clear h3
      go_wp2
      go_ret
      exact ⟨⟨_, rfl⟩, rfl⟩

set_option maxHeartbeats 1000000 in
theorem rowsSize_any (v : Value) (n : Nat) (L : Nat → Nat) (z : Int) (w : World) (h : Rows2 w v n L) :
    Calls Try.prog 7 #[v, .int .i64 z] w fun e w' => (∃ z', e = .returned (.int .i64 z')) ∧ w' = w := by
  obtain ⟨a, cap, rfl, h1, h2, h3⟩ := h
  unfold maxLen at h2
  go_enter Try.func7, Try.ntmps7
  go_wp2
  go_loopg [1, 5, 6] n (fun g s i _ wr => wr = w ∧ ∃ (k : Nat) (y : Int), k ≤ n ∧ n ≤ k + g ∧ i = .int .i64 k ∧ s = .int .i64 y)
  case atStart => exact ⟨rfl, 0, z, Nat.zero_le _, by omega, rfl, rfl⟩
  case round =>
    obtain ⟨rfl, k, y, hk, hg, rfl, rfl⟩ := hrel
    by_cases hlt : k < n
    · obtain ⟨b, off, x, rfl, hb, hc, a2, cap2, rfl, g1, g2, g3⟩ := h3 k hlt
      clear h3
      unfold maxLen at g2
      by_cases hy : y ≤ 1048576
      · go_wp2
        go_loopg [1, 6] (L k) (fun g s i wr' => wr' = wr ∧ ∃ (k2 : Nat) (y : Int), k2 ≤ L k ∧ L k ≤ k2 + g ∧ i = .int .i64 k2 ∧ s = .int .i64 y)
        case atStart => exact ⟨rfl, 0, _, Nat.zero_le _, by omega, rfl, rfl⟩
        case round =>
          obtain ⟨rfl, k2, y2, hk2, hg2, rfl, rfl⟩ := hrel
          by_cases hlt2 : k2 < L k
          · obtain ⟨b2, off2, x, rfl, hb2, hc2, s, rfl, hs⟩ := g3 k2 hlt2
            clear g3
            by_cases hy2 : y2 ≤ 1048576
            · go_wp2
              go_roundg (L k - (k2 + 1))
              case rel => exact ⟨rfl, k2 + 1, _, by omega, by omega, by go_num, rfl⟩
              case measure => omega
            · go_wp2
              go_roundg (n - (k + 1))
              case rel => exact ⟨rfl, k + 1, _, by omega, by omega, by go_num, rfl⟩
              case measure => omega
          · clear g3
            go_wp2
            go_roundg (n - (k + 1))
            case rel => exact ⟨rfl, k + 1, _, by omega, by omega, by go_num, rfl⟩
            case measure => omega
      · go_wp2
        go_ret
        exact ⟨⟨_, rfl⟩, rfl⟩
    · clear h3
      go_wp2
      go_ret
      exact ⟨⟨_, rfl⟩, rfl⟩
end Go.Proofs.Qxb6608620a
