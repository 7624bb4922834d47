/-
  What an argument's reading tells the walk.
-/
import Derived.Test.Qxb6608650aBase
import Derived.ProofKit
import Derived.SliceStrings
namespace Go.Proofs.Qxb6608650a
open Go.ChangeShapes Go.WideShapes Go.ChangeAt Go.RowKit

theorem cell_lt {w : World} {a : Addr} {v : Value} (h : w.cell? a = some v) : a.block < w.heap.size := by
  unfold World.cell? at h
  rcases Nat.lt_or_ge a.block w.heap.size with hl | hl
  · exact hl
  · rw [Array.getElem?_eq_none hl] at h
    cases h
theorem plain_of {w : World} {a : Addr} {v : Value} {j : Nat} (h0 : w.cell? (a.add 0) = some v) {u : Value} (hj : w.cell? (a.add j) = some u) :
    ∃ b off, a = ⟨b, off, none⟩ ∧ b < w.heap.size ∧ w.cell? ⟨b, off + j, none⟩ = some u := by
  obtain ⟨b, off, spot⟩ := a
  have hspot : spot = none := by simpa [Addr.add] using World.cell?_spot h0
  subst hspot
  rw [Go.WideShapes.add_plain] at hj
  exact ⟨b, off, rfl, cell_lt hj, hj⟩

theorem strs_of {H : Type} {enc : TypeId × Value → H} {W : World} {base : Nat} {held : Bool} {fuel : Nat} {v : Value} {x : DataW H × List MemPlace}
    (h : DataW.trod enc Try.prog W base (fun _ => true) held fuel 22 [v] = some x) : ∃ n f, Strs W v n f := by
  rcases open_strings Try.underlying22 Try.underlying9 (by kernel_rfl) h with ⟨hcs, _⟩ | ⟨a, len, cap, ss, hcs, _, hl, hm, hz, _, hcell, hws⟩
  · obtain rfl : v = .slice none 0 0 := by simpa using hcs
    exact ⟨0, fun _ => ByteArray.empty, none, 0, rfl, Nat.le_refl _, Nat.zero_le _, fun j hj => absurd hj (Nat.not_lt_zero _)⟩
  · obtain rfl : v = .slice (some a) len cap := by simpa using hcs
    simp only [if_true] at hz
    refine ⟨len, fun j => ss.getD j ByteArray.empty, some a, cap, rfl, hl, hm, fun j hj => ?_⟩
    obtain ⟨b, off, rfl, hb, hc⟩ := plain_of (hcell 0 (by omega)) (hcell j (by omega))
    refine ⟨b, off, _, rfl, hb, hc, rfl, ?_⟩
    show (ss.getD j ByteArray.empty).size ≤ maxLen
    rw [List.getD_eq_getElem?_getD, List.getElem?_eq_getElem (by omega)]
    exact hws _ (List.getElem_mem _)

theorem ints_of {H : Type} {enc : TypeId × Value → H} {W : World} {base : Nat} {held : Bool} {fuel : Nat} {t e : TypeId} {k : IntKind} (ht : Try.prog.underlying t = some (.slice e)) (he : Try.prog.underlying e = some (.int k)) (hc : Try.prog.cellsOf e = 1) {v : Value} {x : DataW H × List MemPlace}
    (h : DataW.trod enc Try.prog W base (fun _ => true) held fuel t [v] = some x) : ∃ n, Ints k W v n := by
  rcases open_ints ht he hc h with ⟨hcs, _⟩ | ⟨a, len, cap, zs, hcs, _, hl, hm, hz, _, hcell, hws⟩
  · obtain rfl : v = .slice none 0 0 := by simpa using hcs
    exact ⟨0, none, 0, rfl, Nat.le_refl _, Nat.zero_le _, fun j hj => absurd hj (Nat.not_lt_zero _)⟩
  · obtain rfl : v = .slice (some a) len cap := by simpa using hcs
    simp only [if_true] at hz
    refine ⟨len, some a, cap, rfl, hl, hm, fun j hj => ?_⟩
    obtain ⟨b, off, rfl, hb, hc⟩ := plain_of (hcell 0 (by omega)) (hcell j (by omega))
    exact ⟨b, off, _, rfl, hb, hc, _, rfl⟩
end Go.Proofs.Qxb6608650a
