/-
  DERIVED. No Go in sight: the floats of the road are no NaNs; what they are worth against themselves.
-/
import Derived.WalkKit
import Derived.Laws.FloatArith
namespace Go.Proofs.Qxb6608650aFmt
open Go

/-- x is no NaN -/
def NN (x : Nat) : Prop := (Ieee.double.read x).isNaN = false

theorem read_word (neg : Bool) (r : Nat) (h : r ≤ Ieee.double.infRung) : NN (Ieee.double.word neg r) := by
  have hw : Ieee.double.word neg r % Ieee.double.signWeight = r := by
    have hlt : r < Ieee.double.signWeight := Nat.lt_of_le_of_lt h (by decide)
    unfold Ieee.Format.word
    split
    · rw [Nat.add_mod_left, Nat.mod_eq_of_lt hlt]
    · exact Nat.mod_eq_of_lt hlt
  unfold NN Ieee.Format.read
  simp only [hw]
  split
  · rfl
  · split
    · rfl
    · split
      · rfl
      · omega

theorem nearest_nn (neg : Bool) (m : Nat) (p : Int) : NN (Ieee.double.nearest neg m p) := by
  unfold Ieee.Format.nearest
  split
  · exact read_word _ _ (Nat.zero_le _)
  · exact read_word _ _ (Nat.min_le_right _ _)

theorem write_nn (d : Ieee.Datum) (h : d.isNaN = false) : NN (Ieee.double.write d) := by
  cases d with
  | number s m p => exact nearest_nn s m p
  | infinity s => exact read_word _ _ (Nat.le_refl _)
  | nan s t => cases h

theorem order_self {x : Nat} (h : NN x) : FloatKind.f64.format.order x x = some .eq := by
  show (Ieee.double.read x).order (Ieee.double.read x) = some .eq
  unfold NN at h
  cases hd : Ieee.double.read x with
  | number s m p => simp [Ieee.Datum.order]
  | infinity s => simp [Ieee.Datum.order]
  | nan s t => rw [hd] at h; cases h

/-- float64(z) -/
def fl (z : Nat) : Nat := floatOfInt .f64 (z : Int)
theorem fl_nn (z : Nat) : NN (fl z) := nearest_nn _ _ _

theorem read_100 : ∃ n j, Ieee.double.read 4636737291354636288 = .number false n j ∧ n ≠ 0 := ⟨_, _, rfl, by decide⟩
theorem read_2 : ∃ n j, Ieee.double.read 4611686018427387904 = .number false n j ∧ n ≠ 0 := ⟨_, _, rfl, by decide⟩

theorem div100 {x : Nat} (h : NN x) : ∃ r, floatBits .quo .f64 x 4636737291354636288 = some r ∧ NN r := by
  obtain ⟨n, j, hr, hn⟩ := read_100
  unfold NN at h
  show ∃ r, Ieee.double.div x 4636737291354636288 = some r ∧ NN r
  unfold Ieee.Format.div
  rw [hr]
  cases hd : Ieee.double.read x with
  | number s m p => simp only [Ieee.Datum.quotient, if_neg hn, Option.map_some]; exact ⟨_, rfl, write_nn _ rfl⟩
  | infinity s => simp only [Ieee.Datum.quotient, Option.map_some]; exact ⟨_, rfl, write_nn _ rfl⟩
  | nan s t => rw [hd] at h; cases h

theorem mul2 {x : Nat} (h : NN x) : ∃ r, floatBits .mul .f64 4611686018427387904 x = some r ∧ NN r := by
  obtain ⟨n, j, hr, hn⟩ := read_2
  unfold NN at h
  show ∃ r, Ieee.double.mul 4611686018427387904 x = some r ∧ NN r
  unfold Ieee.Format.mul
  rw [hr]
  cases hd : Ieee.double.read x with
  | number s m p => simp only [Ieee.Datum.product, Option.map_some]; exact ⟨_, rfl, write_nn _ rfl⟩
  | infinity s => simp only [Ieee.Datum.product, if_neg hn, Option.map_some]; exact ⟨_, rfl, write_nn _ rfl⟩
  | nan s t => rw [hd] at h; cases h

/-- float64(z) / 100 -/
def cents (z : Nat) : Nat := (floatBits .quo .f64 (fl z) 4636737291354636288).getD 0
theorem cents_eq (z : Nat) : floatBits .quo .f64 (fl z) 4636737291354636288 = some (cents z) := by
  obtain ⟨r, hr, _⟩ := div100 (fl_nn z)
  unfold cents
  rw [hr]; rfl
theorem cents_nn (z : Nat) : NN (cents z) := by
  obtain ⟨r, hr, h⟩ := div100 (fl_nn z)
  unfold cents
  rw [hr]; exact h
/-- 2 * float64(z) -/
def dbl (z : Nat) : Nat := (floatBits .mul .f64 4611686018427387904 (fl z)).getD 0
theorem dbl_eq (z : Nat) : floatBits .mul .f64 4611686018427387904 (fl z) = some (dbl z) := by
  obtain ⟨r, hr, _⟩ := mul2 (fl_nn z)
  unfold dbl
  rw [hr]; rfl
theorem dbl_nn (z : Nat) : NN (dbl z) := by
  obtain ⟨r, hr, h⟩ := mul2 (fl_nn z)
  unfold dbl
  rw [hr]; exact h

theorem fl_1000_a : (List.range 3500).all (fun d => (FloatKind.f64.format.order (fl (1000 + d)) 4652007308841189376 == some .lt) == false) = true := by decide +kernel
theorem fl_1000_b : (List.range 3501).all (fun d => (FloatKind.f64.format.order (fl (4500 + d)) 4652007308841189376 == some .lt) == false) = true := by decide +kernel
theorem fl_1000 {z : Nat} (h1 : 1000 ≤ z) (h2 : z ≤ 8000) : (FloatKind.f64.format.order (fl z) 4652007308841189376 == some .lt) = false := by
  rcases Nat.lt_or_ge z 4500 with h | h
  · have := List.all_eq_true.1 fl_1000_a (z - 1000) (List.mem_range.2 (by omega))
    rw [show 1000 + (z - 1000) = z by omega] at this
    simpa using this
  · have := List.all_eq_true.1 fl_1000_b (z - 4500) (List.mem_range.2 (by omega))
    rw [show 4500 + (z - 4500) = z by omega] at this
    simpa using this

attribute [irreducible] fl cents dbl
end Go.Proofs.Qxb6608650aFmt
