/-
  What the walks are told of memory: a slice that is read; a block with room.
-/
import Derived.Test.Qxb6608650aProg
import Derived.WalkKit
import Derived.WalkSpells
import Derived.WalkLawsBesides
import Derived.Deep.LoopGhost
import Derived.Deep.QuietTactic
import Derived.BigQuiet
namespace Go.Proofs.Qxb6608650a
open Go.RowKit

/-- 'v' is a slice of n elements of one cell each; element j holds an x with 'E x j'. -/
def Row (w : World) (v : Value) (n : Nat) (E : Value → Nat → Prop) : Prop :=
  ∃ a cap, v = .slice a n cap ∧ n ≤ cap ∧ cap ≤ maxLen ∧ ∀ j, j < n → ∃ b off x, a = some ⟨b, off, none⟩ ∧ b < w.heap.size ∧ w.cell? ⟨b, off + j, none⟩ = some x ∧ E x j
/-- a slice of n strings, the j-th being f j -/
def Strs (w : World) (v : Value) (n : Nat) (f : Nat → ByteArray) : Prop := Row w v n fun x j => x = .string (f j) ∧ (f j).size ≤ maxLen
/-- a slice of n integers of a kind -/
def Ints (k : IntKind) (w : World) (v : Value) (n : Nat) : Prop := Row w v n fun x _ => ∃ z, x = .int k z

theorem Row.below {w w' : World} {v : Value} {n : Nat} {E : Value → Nat → Prop} (h : Row w v n E) (hb : Below w.heap.size w w') : Row w' v n E := by
  obtain ⟨a, cap, hv, h1, h2, h3⟩ := h
  refine ⟨a, cap, hv, h1, h2, fun j hj => ?_⟩
  obtain ⟨b, off, x, ha, hlt, hc, hx⟩ := h3 j hj
  exact ⟨b, off, x, ha, Nat.lt_of_lt_of_le hlt hb.size, by rw [hb.cell (p := ⟨b, off + j, none⟩) hlt]; exact hc, hx⟩
theorem Strs.below {w w' : World} {v : Value} {n : Nat} {f : Nat → ByteArray} (h : Strs w v n f) (hb : Below w.heap.size w w') : Strs w' v n f := Row.below h hb
theorem Ints.below {k : IntKind} {w w' : World} {v : Value} {n : Nat} (h : Ints k w v n) (hb : Below w.heap.size w w') : Ints k w' v n := Row.below h hb
theorem below2 {a b c : World} (h1 : Below a.heap.size a b) (h2 : Below b.heap.size b c) : Below a.heap.size a c := h1.trans (h2.mono h1.size)
theorem below_alloc {w X : World} (h : Below w.heap.size w X) (o : Obj) : Below w.heap.size w (X.alloc o) := h.alloc h.size o

/-- Block b has sz cells that can be written. -/
def Room (w : World) (b sz : Nat) : Prop :=
  b < w.heap.size ∧ (∀ j, j < sz → ∃ v, w.cell? ⟨b, j, none⟩ = some v) ∧ ∀ j, w.frozen? ⟨b, j, none⟩ = false
theorem Room.made (w : World) (cs : Array Value) (e : TypeId) : Room (w.alloc (.cells cs e)) w.heap.size cs.size := by
  have e := (MapKept.heap_alloc w (.cells cs e)).1
  refine ⟨by simp, fun j hj => ⟨cs[j], ?_⟩, fun j => ?_⟩
  · unfold World.cell?
    simp only [e]
    simp [hj]
  · unfold World.frozen?
    simp only [e]
    simp
theorem Room.kept {w w' : World} {b sz : Nat} (h : Room w b sz) (hs : w.heap.size ≤ w'.heap.size) (hb : w'.heap[b]? = w.heap[b]?) : Room w' b sz := by
  obtain ⟨h1, h2, h3⟩ := h
  exact ⟨Nat.lt_of_lt_of_le h1 hs, fun j hj => by rw [World.cell?_of_block (w := w) (a := ⟨b, j, none⟩) hb]; exact h2 j hj, fun j => by rw [World.frozen?_of_block (w := w) (a := ⟨b, j, none⟩) hb]; exact h3 j⟩
theorem Room.below {w w' : World} {b sz B : Nat} (h : Room w b sz) (hb : Below B w w') (hlt : b < B) : Room w' b sz := h.kept hb.size (hb.block b hlt)
theorem Room.setCell {w : World} {b sz : Nat} (h : Room w b sz) (p : Addr) (u : Value) : Room (w.setCell p u) b sz := by
  obtain ⟨h1, h2, h3⟩ := h
  refine ⟨by simpa [World.setCell] using h1, fun j hj => ?_, fun j => by rw [World.frozen?_setCell]; exact h3 j⟩
  obtain ⟨v, hv⟩ := h2 j hj
  exact cell?_setCell_some hv
theorem cell_set_ne {w : World} {b o o' : Nat} {u : Value} (h : o ≠ o') : (w.setCell ⟨b, o, none⟩ u).cell? ⟨b, o', none⟩ = w.cell? ⟨b, o', none⟩ :=
  World.cell?_setCell_other _ _ _ _ (by intro e; injection e with _ e; exact h e)

/-- a new row of n elements -/
theorem mk_row {t e : TypeId} {z : Value} {size bytes : Nat} (ht : Try.prog.underlying t = some (.slice e)) (hi : (Try.prog.info? e).map (fun i => (i.zero, i.size, i.bytes)) = some (some z, size, bytes)) (hb : bytes ≤ 300) (w : World) (n : Nat) (hn : n ≤ 1048576) :
    (Instr.makeSlice t (.int .i64 (n : Int)) (.int .i64 (n : Int))).run Try.prog w = .ok (.slice (some ⟨w.heap.size, 0, none⟩) n n) (w.alloc (.cells (madeCells z.cells (n * size)) e)) := by
  obtain ⟨i, h1, h2, h3, h4⟩ := info_parts hi
  have := run_make (P := Try.prog) w t e i z ht h1 h2 .i64 .i64 n n (by omega) (by omega) (by
    rw [h4]
    have : bytes * n ≤ 300 * 1048576 := Nat.mul_le_mul hb hn
    have h' : ((bytes * n : Nat) : Int) ≤ 281474976710656 := by omega
    rwa [Int.natCast_mul] at h') (by omega)
  rw [h3] at this
  simpa using this
/-- .. the world behind it unnamed -/
theorem mk_room {t e : TypeId} {z : Value} {size bytes : Nat} (ht : Try.prog.underlying t = some (.slice e)) (hi : (Try.prog.info? e).map (fun i => (i.zero, i.size, i.bytes)) = some (some z, size, bytes)) (hb : bytes ≤ 300) (w : World) (n : Nat) (hn : n ≤ 1048576) :
    ∃ w', (Instr.makeSlice t (.int .i64 (n : Int)) (.int .i64 (n : Int))).run Try.prog w = .ok (.slice (some ⟨w.heap.size, 0, none⟩) n n) w' ∧ Below w.heap.size w w' ∧ w'.heap.size = w.heap.size + 1 ∧ Room w' w.heap.size (n * size) := by
  refine ⟨_, mk_row ht hi hb w n hn, (Below.refl _ _).alloc (Nat.le_refl _) _, by simp, ?_⟩
  have := Room.made w (madeCells z.cells (n * size)) e
  rwa [size_madeCells] at this

/-- math.NaN's bits -/
def nanB : Nat := 9221120237041090561
theorem nan_ne : (FloatKind.f64.format.order nanB nanB == some .eq) = false := by decide +kernel

theorem bits31 (w : World) : (callFunc 31 #[.int .u64 9221120237041090561]).run Try.prog w = .ok (.value (.float .f64 nanB)) w := by kernel_rfl

set_option maxHeartbeats 400000 in
theorem nan_any (w : World) : Calls Try.prog 29 #[] w fun e w' => e = .returned (.float .f64 nanB) ∧ w' = w := by
  have hb := bits31
  go_enter Try.func29, Try.ntmps29
  go_wp2
  go_ret
  exact ⟨rfl, rfl⟩
end Go.Proofs.Qxb6608650a
