/-
  Rows that have been marked, each in its own block.
-/
import Derived.Test.Qxb6608650aCopy
namespace Go.Proofs.Qxb6608650a
open Go.RowKit Go.Maps Go.WideMaps

/-- float64(d) -/
def fl (d : Nat) : Nat := floatOfInt .f64 (d : Int)
/-- what stands at place c of a row that is marked by o -/
def markV (k : Nat) (o : Option Nat) (c : Nat) : Nat := match o with
  | some d => if c = d % k then fl d else nanB
  | none => nanB
/-- block g is a row of k floats, NaNs but for its mark -/
def RowAt (w : World) (g k : Nat) (o : Option Nat) : Prop := Room w g k ∧ ∀ c, c < k → w.cell? ⟨g, c, none⟩ = some (.float .f64 (markV k o c))

theorem RowAt.kept {w w' : World} {g k : Nat} {o : Option Nat} (h : RowAt w g k o) (hs : w.heap.size ≤ w'.heap.size) (hb : w'.heap[g]? = w.heap[g]?) : RowAt w' g k o :=
  ⟨h.1.kept hs hb, fun c hc => by rw [World.cell?_of_block (w := w) (a := ⟨g, c, none⟩) hb]; exact h.2 c hc⟩
theorem NaNRow.rowAt {w : World} {g k : Nat} (h : NaNRow w g k) : RowAt w g k none := h
theorem RowAt.mark {w : World} {g k d : Nat} (h : RowAt w g k none) (hk : 0 < k) : RowAt (w.setCell ⟨g, d % k, none⟩ (.float .f64 (fl d))) g k (some d) := by
  refine ⟨h.1.setCell _ _, fun c hc => ?_⟩
  by_cases e : c = d % k
  · subst e
    rw [World.cell?_setCell_same _ _ _ (h.2 _ (Nat.mod_lt _ hk))]
    simp [markV]
  · rw [cell_set_ne (fun h => e h.symm), h.2 c hc]
    simp [markV, e]
theorem RowAt.mark0 {w : World} {g d : Nat} (h : RowAt w g 0 none) : RowAt w g 0 (some d) := ⟨h.1, fun _ hc => absurd hc (Nat.not_lt_zero _)⟩

/-- mk: the mark of each block -/
def putMark (mk : Nat → Option Nat) (g d : Nat) : Nat → Option Nat := fun x => if x = g then some d else mk x

/-- BEHIND i ENTRIES: those that stood first among them have marked their rows; all other rows are as they were. -/
def Marked (E : Nat → ByteArray) (G : Nat → Nat) (m i : Nat) (mk : Nat → Option Nat) : Prop :=
  (∀ j, j < i → seenB E j = false → mk (G j) = some (cntD E j)) ∧ (∀ j, i ≤ j → j < m → seenB E j = false → mk (G j) = none)
theorem Marked.start (E : Nat → ByteArray) (G : Nat → Nat) (m : Nat) : Marked E G m 0 (fun _ => none) :=
  ⟨fun _ h => absurd h (Nat.not_lt_zero _), fun _ _ _ _ => rfl⟩
theorem Marked.seen {E : Nat → ByteArray} {G : Nat → Nat} {m i : Nat} {mk : Nat → Option Nat} (h : Marked E G m i mk) (hs : seenB E i = true) : Marked E G m (i + 1) mk := by
  refine ⟨fun j hj hn => ?_, fun j h1 h2 h3 => h.2 j (by omega) h2 h3⟩
  by_cases e : j = i
  · subst e; rw [hs] at hn; cases hn
  · exact h.1 j (by omega) hn
theorem Marked.put {E : Nat → ByteArray} {G : Nat → Nat} {m i : Nat} {mk : Nat → Option Nat} (h : Marked E G m i mk) (hi : i < m) (hG : ∀ j l, j < m → l < m → G j = G l → E j = E l) (hs : seenB E i = false) : Marked E G m (i + 1) (putMark mk (G i) (cntD E i)) := by
  refine ⟨fun j hj hn => ?_, fun j h1 h2 h3 => ?_⟩
  · by_cases e : j = i
    · subst e; simp [putMark]
    · have hne : G j ≠ G i := fun hg => seenB_false hs j (by omega) (hG j i (by omega) hi hg)
      simp only [putMark, if_neg hne]
      exact h.1 j (by omega) hn
  · have hne : G j ≠ G i := fun hg => seenB_false h3 i (by omega) (hG i j hi h2 hg.symm)
    simp only [putMark, if_neg hne]
    exact h.2 j (by omega) h2 h3

theorem fl_self_all : (List.range 4097).all (fun d => (FloatKind.f64.format.order (fl d) (fl d) != some .eq) == false) = true := by decide +kernel
theorem fl_self {d : Nat} (h : d ≤ 4096) : (FloatKind.f64.format.order (fl d) (fl d) != some .eq) = false := by
  have := List.all_eq_true.1 fl_self_all d (List.mem_range.2 (by omega))
  simpa using this
end Go.Proofs.Qxb6608650a
