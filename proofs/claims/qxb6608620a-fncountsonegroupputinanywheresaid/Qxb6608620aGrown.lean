/-
  A row of rows that grows within its capacity.
-/
import Derived.Test.Qxb6608620aCuts
namespace Go.Proofs.Qxb6608620a
open Go.RowKit

/-- L with p put in at c -/
def insL (L : Nat → Nat) (c p : Nat) (j : Nat) : Nat := if j < c then L j else if j = c then p else L (j - 1)
theorem sumTo_insL_lo (L : Nat → Nat) (c p : Nat) : ∀ k, k ≤ c → sumTo (insL L c p) k = sumTo L k
  | 0, _ => rfl
  | k + 1, h => by rw [sumTo_succ, sumTo_succ, sumTo_insL_lo L c p k (by omega), insL, if_pos (by omega)]
theorem sumTo_insL_hi (L : Nat → Nat) (c p : Nat) : ∀ r, sumTo (insL L c p) (c + 1 + r) = sumTo L (c + r) + p
  | 0 => by
    show sumTo (insL L c p) (c + 1) = sumTo L c + p
    rw [sumTo_succ, sumTo_insL_lo L c p c (Nat.le_refl _), insL, if_neg (by omega), if_pos rfl]
  | r + 1 => by
    rw [← Nat.add_assoc, sumTo_succ, sumTo_insL_hi L c p r, ← Nat.add_assoc, sumTo_succ, insL, if_neg (by omega), if_neg (by omega)]
    rw [show c + 1 + r - 1 = c + r from by omega]
    omega
theorem sumTo_insL (L : Nat → Nat) (c p n : Nat) (h : c ≤ n) : sumTo (insL L c p) (n + 1) = sumTo L n + p := by
  have := sumTo_insL_hi L c p (n - c)
  rw [show c + 1 + (n - c) = n + 1 from by omega, show c + (n - c) = n from by omega] at this
  exact this

/-- the first k rows of a row of rows that lies in block g, with room for cap -/
def Grows (w0 w : World) (g k cap : Nat) (M : Nat → Nat) : Prop :=
  Room w g cap ∧ ∀ j, j < k → ∃ x, w.cell? ⟨g, j, none⟩ = some x ∧ Strs w0 x (M j)

theorem Grows.made (w0 w : World) (n : Nat) (hn : n ≤ 1048576) (M : Nat → Nat) :
    ∃ w', (Instr.makeSlice 22 (.int .i64 0) (.int .i64 ((n : Int) + 1))).run Try.prog w = .ok (.slice (some ⟨w.heap.size, 0, none⟩) 0 (n + 1)) w' ∧ Grows w0 w' w.heap.size 0 (n + 1) M ∧ Below w.heap.size w w' := by
  obtain ⟨i, h1, h2, h3, h4⟩ := info_parts info23
  have hr := run_make (P := Try.prog) w 22 23 i _ Try.underlying22 h1 h2 .i64 .i64 0 ((n + 1 : Nat) : Int) (by omega) (by omega) (by rw [h4]; omega) (by omega)
  rw [h3] at hr
  simp only [Int.toNat_natCast, Int.toNat_zero, Nat.mul_one] at hr
  refine ⟨_, hr, ⟨?_, fun j h => absurd h (Nat.not_lt_zero _)⟩, (Below.refl _ _).alloc (Nat.le_refl _) _⟩
  have := Room.made w (madeCells (Value.slice none 0 0).cells (n + 1)) 23
  rwa [size_madeCells] at this

theorem Grows.push {w0 w : World} {g k cap : Nat} {M : Nat → Nat} (h : Grows w0 w g k cap M) (hk : k + 1 ≤ cap) {x : Value} (hx : Strs w0 x (M k)) (o : Obj) :
    Grows w0 ((w.setCell ⟨g, k, none⟩ x).alloc o) g (k + 1) cap M := by
  obtain ⟨hr, hc⟩ := h
  have hra := hr.setCell ⟨g, k, none⟩ x
  have hbl := Below.heap_alloc (w.setCell ⟨g, k, none⟩ x) o g hra.1
  refine ⟨hra.kept (by simp) hbl, fun j hj => ?_⟩
  rw [World.cell?_of_block (w := w.setCell ⟨g, k, none⟩ x) (a := ⟨g, j, none⟩) hbl]
  by_cases e : j = k
  · subst e
    obtain ⟨v, hv⟩ := hr.2.1 j (by omega)
    exact ⟨x, World.cell?_setCell_same _ _ _ hv, hx⟩
  · obtain ⟨y, hy, hs⟩ := hc j (by omega)
    refine ⟨y, ?_, hs⟩
    rw [cell_set_ne (fun h => e h.symm)]
    exact hy
theorem Grows.rows {w0 w : World} {g k cap : Nat} {M : Nat → Nat} (h : Grows w0 w g k cap M) (hb : Below w0.heap.size w0 w) (hk : k ≤ cap) (hm : cap ≤ maxLen) : Rows2 w (.slice (some ⟨g, 0, none⟩) k cap) k M := by
  refine ⟨_, _, rfl, hk, hm, fun j hj => ?_⟩
  obtain ⟨y, hy, hs⟩ := h.2 j hj
  exact ⟨g, 0, y, rfl, h.1.1, by rw [Nat.zero_add]; exact hy, hs.below hb⟩
end Go.Proofs.Qxb6608620a
