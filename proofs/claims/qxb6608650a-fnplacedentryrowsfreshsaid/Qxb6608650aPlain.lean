/-
  Which entries have been seen, how many different ones there are, and what the map of rows holds.
-/
import Derived.Test.Qxb6608650aBase
import Derived.Maps.OwnSet
namespace Go.Proofs.Qxb6608650a
open Go.RowKit Go.Maps Go.WideMaps

/-- entry i stood before -/
def seenB (E : Nat → ByteArray) (i : Nat) : Bool := (List.range i).any fun j => (E j).toList == (E i).toList
/-- how many different ones stand among the first i -/
def cntD (E : Nat → ByteArray) : Nat → Nat
  | 0 => 0
  | i + 1 => cntD E i + if seenB E i then 0 else 1
theorem cntD_succ (E : Nat → ByteArray) (i : Nat) : cntD E (i + 1) = cntD E i + if seenB E i then 0 else 1 := rfl
theorem cntD_le (E : Nat → ByteArray) : ∀ i, cntD E i ≤ i
  | 0 => Nat.le_refl _
  | i + 1 => by have := cntD_le E i; rw [cntD_succ]; split <;> omega
theorem toList_inj {a b : ByteArray} (h : a.toList = b.toList) : a = b := by
  rw [Go.ByteArray.toList_eq, Go.ByteArray.toList_eq] at h
  exact Go.WideShapes.bytes_inj h
theorem seenB_true {E : Nat → ByteArray} {i : Nat} (h : seenB E i = true) : ∃ j, j < i ∧ E j = E i := by
  unfold seenB at h
  rw [List.any_eq_true] at h
  obtain ⟨j, hj, he⟩ := h
  exact ⟨j, List.mem_range.1 hj, toList_inj (by simpa using he)⟩
theorem seenB_false {E : Nat → ByteArray} {i : Nat} (h : seenB E i = false) : ∀ j, j < i → E j ≠ E i := by
  intro j hj e
  unfold seenB at h
  rw [List.any_eq_false] at h
  have := h j (List.mem_range.2 hj)
  rw [e] at this
  simp at this

/-- the key of a string -/
def kl (s : ByteArray) : Lit := .string s.data.toList
theorem kl_inj {a b : ByteArray} (h : kl a = kl b) : a = b := by
  injection h with h
  exact Go.WideShapes.bytes_inj h
/-- an element reads as itself -/
def RH (v : Value) : Option (DataW Value × List MemPlace) := some (.held v, [])
/-- a slice over the whole of block g -/
def rowV (g k : Nat) : Value := .slice (some ⟨g, 0, none⟩) k k
def nilV : Value := .slice none 0 0

/-- THE MAP's DATUM BEHIND i ENTRIES: entry j's row lies in block G j; different entries, different blocks. -/
def Filled (D : DataW Value) (E : Nat → ByteArray) (k i : Nat) (G : Nat → Nat) : Prop :=
  Tidy D ∧ (∀ j, j < i → D.atKey (kl (E j)) (.held nilV) = .held (rowV (G j) k) ∧ Maps.has D (kl (E j)) = true) ∧
  (∀ j l, j < i → l < i → G j = G l → E j = E l) ∧ (∀ s, Maps.has D (kl s) = true → ∃ j, j < i ∧ E j = s) ∧ Maps.size D = cntD E i

theorem Filled.empty (E : Nat → ByteArray) (k : Nat) (G : Nat → Nat) : Filled (.map []) E k 0 G :=
  ⟨tidy_empty, fun j h => absurd h (Nat.not_lt_zero _), fun j l h => absurd h (Nat.not_lt_zero _), fun s h => by simp [Maps.has] at h, rfl⟩

theorem Filled.seen {D : DataW Value} {E : Nat → ByteArray} {k i : Nat} {G : Nat → Nat} (h : Filled D E k i G) (hs : seenB E i = true) :
    ∃ j, j < i ∧ E j = E i ∧ Filled D E k (i + 1) (fun l => if l < i then G l else G j) := by
  obtain ⟨h0, h1, h2, h3, h4⟩ := h
  obtain ⟨j, hj, he⟩ := seenB_true hs
  refine ⟨j, hj, he, h0, fun l hl => ?_, fun a b ha hb hab => ?_, fun s hs => ?_, ?_⟩
  · by_cases e : l < i
    · simp only [if_pos e]; exact h1 l e
    · simp only [if_neg e]
      rw [show l = i from by omega, ← he]
      exact h1 j hj
  · by_cases e1 : a < i
    · by_cases e2 : b < i
      · simp only [if_pos e1, if_pos e2] at hab
        exact h2 a b e1 e2 hab
      · simp only [if_pos e1, if_neg e2] at hab
        rw [show b = i from by omega, ← he]
        exact h2 a j e1 hj hab
    · by_cases e2 : b < i
      · simp only [if_neg e1, if_pos e2] at hab
        rw [show a = i from by omega, ← he]
        exact h2 j b hj e2 hab
      · rw [show a = i from by omega, show b = i from by omega]
  · obtain ⟨l, hl, e⟩ := h3 s hs
    exact ⟨l, by omega, e⟩
  · rw [cntD_succ, hs, h4]; rfl

theorem Filled.unseen {D : DataW Value} {E : Nat → ByteArray} {k i : Nat} {G : Nat → Nat} (h : Filled D E k i G) (hs : seenB E i = false) : Maps.has D (kl (E i)) = false := by
  cases hh : Maps.has D (kl (E i)) with
  | false => rfl
  | true =>
    obtain ⟨j, hj, e⟩ := h.2.2.2.1 _ hh
    exact absurd e (seenB_false hs j hj)
theorem isKeyLit_kl (s : ByteArray) : WideAt.IsKeyLit (kl s) := by
  unfold kl WideAt.IsKeyLit
  trivial

theorem Filled.put {D : DataW Value} {E : Nat → ByteArray} {k i : Nat} {G : Nat → Nat} (h : Filled D E k i G) (hs : seenB E i = false) {g : Nat} (hg : ∀ j, j < i → G j ≠ g) :
    Filled (D.put (kl (E i)) (.held (rowV g k))) E k (i + 1) (fun l => if l < i then G l else g) := by
  have hno := h.unseen hs
  obtain ⟨h0, h1, h2, h3, h4⟩ := h
  have hkey := isKeyLit_kl (E i)
  have hne : ∀ j, j < i → kl (E j) ≠ kl (E i) := fun j hj e => seenB_false hs j hj (kl_inj e)
  refine ⟨h0.put hkey _, fun l hl => ?_, fun a b ha hb hab => ?_, fun s hh => ?_, ?_⟩
  · by_cases e : l < i
    · simp only [if_pos e]
      rw [atKey_put_other (hne l e), has_put_other (hne l e)]
      exact h1 l e
    · simp only [if_neg e]
      rw [show l = i from by omega]
      exact ⟨atKey_put_same h0.isMap hkey _ _, has_put_same h0.isMap hkey _⟩
  · by_cases e1 : a < i
    · by_cases e2 : b < i
      · simp only [if_pos e1, if_pos e2] at hab
        exact h2 a b e1 e2 hab
      · simp only [if_pos e1, if_neg e2] at hab
        exact absurd hab (hg a e1)
    · by_cases e2 : b < i
      · simp only [if_neg e1, if_pos e2] at hab
        exact absurd hab.symm (hg b e2)
      · rw [show a = i from by omega, show b = i from by omega]
  · by_cases e : kl s = kl (E i)
    · exact ⟨i, by omega, (kl_inj e).symm⟩
    · rw [has_put_other e] at hh
      obtain ⟨l, hl, e⟩ := h3 s hh
      exact ⟨l, by omega, e⟩
  · rw [size_put h0, hno, cntD_succ, hs, h4]; rfl
end Go.Proofs.Qxb6608650a
