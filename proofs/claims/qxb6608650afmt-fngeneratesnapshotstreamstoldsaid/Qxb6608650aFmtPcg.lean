/-
  DERIVED. No Go in sight: the generator's step on 128 bits, its output, and the drawing of a number below n by rejection: every rejection ends, since the step goes through all states.
-/
import Derived.WalkKit
namespace Go.Proofs.Qxb6608650aFmt

/-- k steps of f. -/
def times (f : Nat → Nat) : Nat → Nat → Nat
  | 0, s => s
  | k + 1, s => times f k (f s)

theorem times_add (f : Nat → Nat) (j k s : Nat) : times f (j + k) s = times f k (times f j s) := by
  induction j generalizing s with
  | zero => simp [times]
  | succ j ih => rw [Nat.succ_add]; simp only [times]; exact ih _

/-- 2^k steps are one step of the same kind: the factor is 1 more than a multiple of 2^(k+1), the summand an odd multiple of 2^k. -/
theorem times_pow (b d : Nat) (k : Nat) : ∃ a c x, (∀ s, times (fun s => (1 + 4 * b) * s + (2 * d + 1)) (2 ^ k) s = (1 + 2 ^ (k + 1) * a) * s + 2 ^ k * (2 * c + 1)) ∧ 1 + 2 ^ (k + 1) * a = 1 + 4 * x := by
  induction k with
  | zero => exact ⟨2 * b, d, b, fun s => by simp only [Nat.pow_zero, times]; grind, by omega⟩
  | succ k ih =>
    obtain ⟨a, c, x, h, hx⟩ := ih
    have e1 : 2 ^ (k + 1) = 2 * 2 ^ k := by omega
    have e2 : 2 ^ (k + 1 + 1) = 4 * 2 ^ k := by omega
    have hx2 : 2 * 2 ^ k * a = 4 * x := by rw [← e1]; omega
    have key : 1 + 2 ^ (k + 1 + 1) * (a + 2 ^ k * (a * a)) = (1 + 4 * x) * (1 + 4 * x) := by
      rw [e2, ← hx2]; generalize 2 ^ k = q; grind
    refine ⟨a + 2 ^ k * (a * a), c * (1 + 2 * x) + x, 2 * x + 4 * (x * x), fun s => ?_, ?_⟩
    · rw [key, show 2 ^ (k + 1) = 2 ^ k + 2 ^ k from by omega, times_add, h, h, hx]
      generalize 2 ^ k = q
      grind
    · rw [key]; grind

/-- From every state every state is come to, up to 2^k, in fewer than 2^k steps. -/
theorem times_reach (b d t s : Nat) (k : Nat) : ∃ m, m < 2 ^ k ∧ times (fun s => (1 + 4 * b) * s + (2 * d + 1)) m s % 2 ^ k = t % 2 ^ k := by
  induction k with
  | zero => exact ⟨0, by simp, by simp [Nat.mod_one]⟩
  | succ k ih =>
    obtain ⟨m, hm, h⟩ := ih
    have e1 : 2 ^ (k + 1) = 2 * 2 ^ k := by omega
    by_cases hq : times (fun s => (1 + 4 * b) * s + (2 * d + 1)) m s % 2 ^ (k + 1) = t % 2 ^ (k + 1)
    · exact ⟨m, by omega, hq⟩
    · refine ⟨m + 2 ^ k, by omega, ?_⟩
      rw [times_add]
      obtain ⟨a, c, x, ha, _⟩ := times_pow b d k
      rw [ha]
      generalize times (fun s => (1 + 4 * b) * s + (2 * d + 1)) m s = z at *
      have e3 : (1 + 2 ^ (k + 1) * a) * z + 2 ^ k * (2 * c + 1) = z + 2 ^ k + 2 ^ (k + 1) * (a * z + c) := by
        rw [e1]; generalize 2 ^ k = q; grind
      rw [e3, Nat.add_mul_mod_self_left]
      rw [e1, Nat.mul_comm 2, Nat.mod_mul, Nat.mod_mul] at hq
      rw [e1, Nat.mul_comm 2, Nat.mod_mul, Nat.mod_mul]
      have hp : 0 < 2 ^ k := Nat.two_pow_pos k
      rw [Nat.add_mod_right, Nat.add_div_right _ hp, h]
      rw [h] at hq
      have : (z / 2 ^ k) % 2 ≠ (t / 2 ^ k) % 2 := fun hh => hq (by rw [hh])
      have : (z / 2 ^ k).succ % 2 = (t / 2 ^ k) % 2 := by omega
      rw [this]

theorem step_mod (a c m s : Nat) : (a * (s % m) + c) % m = (a * s + c) % m := by
  rw [Nat.add_mod, Nat.mul_mod, Nat.mod_mod, ← Nat.mul_mod, ← Nat.add_mod]

theorem times_mod (a c m k s : Nat) : times (fun s => (a * s + c) % m) k (s % m) = times (fun s => a * s + c) k s % m := by
  induction k generalizing s with
  | zero => rfl
  | succ k ih =>
    simp only [times]
    rw [← ih, step_mod]

theorem times_mod_reach (b d k t s : Nat) (hs : s < 2 ^ k) (ht : t < 2 ^ k) :
    ∃ m, m < 2 ^ k ∧ times (fun s => ((1 + 4 * b) * s + (2 * d + 1)) % 2 ^ k) m s = t := by
  obtain ⟨m, hm, h⟩ := times_reach b d t s k
  refine ⟨m, hm, ?_⟩
  have := times_mod (1 + 4 * b) (2 * d + 1) (2 ^ k) m s
  rw [Nat.mod_eq_of_lt hs] at this
  rw [this, h, Nat.mod_eq_of_lt ht]

/-- The step as a parted pair of numbers below 2^64 takes it. -/
def pnext (s : Nat) : Nat := ((1 + 4 * 11756561921985530462036051872959380881) * s + (2 * 58698796085763056634279467059502104743 + 1)) % 2 ^ 128

theorem pnext_lt (s : Nat) : pnext s < 2 ^ 128 := Nat.mod_lt _ (Nat.two_pow_pos 128)

theorem pnext_reach (t s : Nat) (hs : s < 2 ^ 128) (ht : t < 2 ^ 128) : ∃ m, m < 2 ^ 128 ∧ times pnext m s = t :=
  times_mod_reach 11756561921985530462036051872959380881 58698796085763056634279467059502104743 128 t s hs ht

/-- What the generator gives out of a state. -/
def pout (s : Nat) : Nat :=
  let hi := s / 18446744073709551616
  let h1 := hi ^^^ hi / 4294967296
  let h2 := h1 * 15750249268501108917 % 18446744073709551616
  let h3 := h2 ^^^ h2 / 281474976710656
  h3 * (s % 18446744073709551616 ||| 1) % 18446744073709551616

theorem pout_lt (s : Nat) : pout s < 18446744073709551616 := Nat.mod_lt _ (by decide)

/-- A state whose output is 1. -/
theorem pout_one : pout 27095449840140583393 = 1 := by decide +kernel

/-- The greatest output of a round that is thrown away, and what a kept one is worth. -/
def drawIn (n : Nat) : Nat → Nat → Option (Nat × Nat)
  | 0, _ => none
  | f + 1, s => if pout (pnext s) * n % 18446744073709551616 < (18446744073709551616 - n) % n then drawIn n f (pnext s) else some (pout (pnext s) * n / 18446744073709551616, pnext s)

theorem drawIn_mono (n f g s : Nat) (r : Nat × Nat) (h : drawIn n f s = some r) (hg : f ≤ g) : drawIn n g s = some r := by
  induction f generalizing g s with
  | zero => cases h
  | succ f ih =>
    obtain ⟨g, rfl⟩ : ∃ g', g = g' + 1 := ⟨g - 1, by omega⟩
    simp only [drawIn] at h ⊢
    split
    · rename_i hc
      rw [if_pos hc] at h
      exact ih _ _ h (by omega)
    · rename_i hc
      rw [if_neg hc] at h
      exact h

theorem drawIn_one (n : Nat) (h0 : 0 < n) (hn : n < 18446744073709551616) (f s u : Nat) (e : pnext s = u) (hu : pout u = 1) : ∃ r, drawIn n (f + 1) s = some r := by
  refine ⟨(pout u * n / 18446744073709551616, u), ?_⟩
  rw [drawIn, e, if_neg]
  rw [hu, Nat.one_mul, Nat.mod_eq_of_lt hn]
  have := Nat.mod_lt (18446744073709551616 - n) h0
  omega

theorem drawIn_ends (n : Nat) (h0 : 0 < n) (hn : n < 18446744073709551616) (u : Nat) (hu : pout u = 1) (m s : Nat) (h : times pnext m (pnext s) = u) : ∃ r, drawIn n (m + 1) s = some r := by
  induction m generalizing s with
  | zero =>
    rw [times] at h
    exact drawIn_one n h0 hn 0 s u h hu
  | succ m ih =>
    rw [times] at h
    obtain ⟨r, hr⟩ := ih (pnext s) h
    rw [drawIn]
    split
    · exact ⟨r, hr⟩
    · exact ⟨_, rfl⟩

theorem drawIn_some (n : Nat) (h0 : 0 < n) (hn : n < 18446744073709551616) (s : Nat) : ∃ r, drawIn n (2 ^ 128) s = some r := by
  obtain ⟨m, hm, h⟩ := pnext_reach 27095449840140583393 (pnext s) (pnext_lt s) (by decide)
  obtain ⟨r, hr⟩ := drawIn_ends n h0 hn _ pout_one m s h
  exact ⟨r, drawIn_mono n _ _ s r hr (by omega)⟩

/-- A number below n, and the state behind. -/
def draw (n s : Nat) : Nat × Nat :=
  if n &&& (n - 1) = 0 then (pout (pnext s) &&& (n - 1), pnext s) else (drawIn n (2 ^ 128) s).getD (0, 0)

theorem drawIn_draw (n : Nat) (h0 : 0 < n) (hn : n < 18446744073709551616) (hp : n &&& (n - 1) ≠ 0) (s : Nat) : drawIn n (2 ^ 128) s = some (draw n s) := by
  obtain ⟨r, hr⟩ := drawIn_some n h0 hn s
  rw [draw, if_neg hp, hr]
  rfl

theorem drawIn_bounds (n : Nat) (h0 : 0 < n) (f s : Nat) (r : Nat × Nat) (h : drawIn n f s = some r) : r.1 < n ∧ r.2 < 2 ^ 128 := by
  induction f generalizing s with
  | zero => cases h
  | succ f ih =>
    simp only [drawIn] at h
    split at h
    · exact ih _ h
    · cases h
      refine ⟨?_, pnext_lt s⟩
      show pout (pnext s) * n / 18446744073709551616 < n
      rw [Nat.div_lt_iff_lt_mul (by decide), Nat.mul_comm]
      exact Nat.mul_lt_mul_of_pos_left (pout_lt _) h0

theorem draw_bounds (n : Nat) (h0 : 0 < n) (hn : n < 18446744073709551616) (s : Nat) : (draw n s).1 < n ∧ (draw n s).2 < 2 ^ 128 := by
  by_cases hp : n &&& (n - 1) = 0
  · rw [draw, if_pos hp]
    refine ⟨?_, pnext_lt s⟩
    have := Nat.and_le_right (n := pout (pnext s)) (m := n - 1)
    show pout (pnext s) &&& (n - 1) < n
    omega
  · exact drawIn_bounds n h0 _ s _ (drawIn_draw n h0 hn hp s)

attribute [irreducible] pnext pout drawIn draw

end Go.Proofs.Qxb6608650aFmt
