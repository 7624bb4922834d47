/-
  DERIVED. What the walk of GenerateSnapshot says of memory, and the plain functions that tell what is drawn.
-/
import Derived.Test.Qxb6608650aFmtNames
import Derived.Deep.MidRow
import Derived.Deep.Upon
namespace Go.Proofs.Qxb6608650aFmt
open Go.RowKit Go.Extern.Stop Go.Stop Go.Extern

/-- a new row of n elements with room for c -/
theorem mk_row {t e : TypeId} {z : Value} {size bytes : Nat} (ht : Tryf.prog.underlying t = some (.slice e)) (hi : (Tryf.prog.info? e).map (fun i => (i.zero, i.size, i.bytes)) = some (some z, size, bytes)) (hb : bytes ≤ 300) (w : World) (n c : Nat) (hnc : n ≤ c) (hn : c ≤ 1048576) :
    (Instr.makeSlice t (.int .i64 (n : Int)) (.int .i64 (c : Int))).run Tryf.prog w = .ok (.slice (some ⟨w.heap.size, 0, none⟩) n c) (w.alloc (.cells (madeCells z.cells (c * size)) e)) := by
  obtain ⟨i, h1, h2, h3, h4⟩ := info_parts hi
  have := run_make (P := Tryf.prog) w t e i z ht h1 h2 .i64 .i64 n c (by omega) (by omega) (by
    rw [h4]
    have : bytes * c ≤ 300 * 1048576 := Nat.mul_le_mul hb hn
    have h' : ((bytes * c : Nat) : Int) ≤ 281474976710656 := by omega
    rwa [Int.natCast_mul] at h') (by omega)
  rw [h3] at this
  simpa using this
theorem mk_some {t e : TypeId} {z : Value} {size bytes : Nat} (ht : Tryf.prog.underlying t = some (.slice e)) (hi : (Tryf.prog.info? e).map (fun i => (i.zero, i.size, i.bytes)) = some (some z, size, bytes)) (hb : bytes ≤ 300) (n c : Nat) (hnc : n ≤ c) (hn : c ≤ 1048576) :
    ∃ cs : Array Value, cs.size = c * size ∧ ∀ w, (Instr.makeSlice t (.int .i64 (n : Int)) (.int .i64 (c : Int))).run Tryf.prog w = .ok (.slice (some ⟨w.heap.size, 0, none⟩) n c) (w.alloc (.cells cs e)) :=
  ⟨_, size_madeCells _ _, fun w => mk_row ht hi hb w n c hnc hn⟩

def z47 : Value := .agg #[.string ⟨#[]⟩, .bool false, .float .f64 0, .float .f64 0, .float .f64 0, .float .f64 0, .float .f64 0, .float .f64 0, .float .f64 0, .float .f64 0, .float .f64 0, .float .f64 0, .float .f64 0, .int .i64 0, .int .i64 0, .slice none 0 0, .slice none 0 0, .slice none 0 0, .string ⟨#[]⟩, .string ⟨#[]⟩, .map none, .slice none 0 0]
theorem info47 : (Tryf.prog.info? 47).map (fun i => (i.zero, i.size, i.bytes)) = some (some z47, 22, 264) := by kernel_rfl
def z53 : Value := .agg #[.string ⟨#[]⟩, .string ⟨#[]⟩, .float .f64 0]
theorem info53 : (Tryf.prog.info? 53).map (fun i => (i.zero, i.size, i.bytes)) = some (some z53, 3, 40) := by kernel_rfl
def z66 : Value := .agg #[.string ⟨#[]⟩, .string ⟨#[]⟩, .string ⟨#[]⟩, .float .f64 0, .float .f64 0, .float .f64 0, .bool false, .float .f64 0, .float .f64 0, .float .f64 0, .float .f64 0, .float .f64 0, .string ⟨#[]⟩, .float .f64 0, .slice none 0 0, .slice none 0 0, .float .f64 0, .float .f64 0, .float .f64 0, .slice none 0 0, .map none, .slice none 0 0, .slice none 0 0]
theorem info66 : (Tryf.prog.info? 66).map (fun i => (i.zero, i.size, i.bytes)) = some (some z66, 23, 296) := by kernel_rfl

/-- Block b has sz cells that can be written. -/
def Room (w : World) (b sz : Nat) : Prop :=
  b < w.heap.size ∧ (∀ j, j < sz → ∃ v, w.cell? ⟨b, j, none⟩ = some v) ∧ ∀ j, w.frozen? ⟨b, j, none⟩ = false
theorem Room.made (w : World) (cs : Array Value) (e : TypeId) : Room (w.alloc (.cells cs e)) w.heap.size cs.size := by
  have e := (MapKept.heap_alloc w (.cells cs e)).1
  refine ⟨by simp, fun j hj => ⟨cs[j], ?_⟩, fun j => ?_⟩
  · unfold World.cell?
    simp only [e]
    simp [hj]
  · unfold World.frozen?
    simp only [e]
    simp
theorem Room.kept {w w' : World} {b sz : Nat} (h : Room w b sz) (hs : w.heap.size ≤ w'.heap.size) (hb : w'.heap[b]? = w.heap[b]?) : Room w' b sz := by
  obtain ⟨h1, h2, h3⟩ := h
  exact ⟨Nat.lt_of_lt_of_le h1 hs, fun j hj => by rw [World.cell?_of_block (w := w) (a := ⟨b, j, none⟩) hb]; exact h2 j hj, fun j => by rw [World.frozen?_of_block (w := w) (a := ⟨b, j, none⟩) hb]; exact h3 j⟩
theorem Room.setCell {w : World} {b sz : Nat} (h : Room w b sz) (p : Addr) (u : Value) : Room (w.setCell p u) b sz := by
  obtain ⟨h1, h2, h3⟩ := h
  refine ⟨by simpa [World.setCell] using h1, fun j hj => ?_, fun j => by rw [World.frozen?_setCell]; exact h3 j⟩
  obtain ⟨v, hv⟩ := h2 j hj
  exact cell?_setCell_some hv
theorem Room.setCells {w : World} {b sz : Nat} (h : Room w b sz) (g o : Nat) (vs : List Value) : Room (w.setCells g o vs) b sz := by
  induction vs generalizing o w with
  | nil => exact h
  | cons v r ih => exact ih (h.setCell ⟨g, o, none⟩ v) (o + 1)

/-- The snapshot is made: its struct in block S, its rows in A (nodes), R (round trips; k of them, room for M), Q (pods). -/
structure Snap (W w : World) (S A R Q N P M k : Nat) : Prop where
  bel : Below W.heap.size W w
  new : W.heap.size ≤ S ∧ W.heap.size ≤ A ∧ W.heap.size ≤ R ∧ W.heap.size ≤ Q
  ne : S ≠ A ∧ S ≠ R ∧ S ≠ Q ∧ A ≠ R ∧ A ≠ Q ∧ R ≠ Q
  lt : S < w.heap.size
  fs : ∀ j, w.frozen? ⟨S, j, none⟩ = false
  c0 : w.cell? ⟨S, 0, none⟩ = some (.slice (some ⟨A, 0, none⟩) (N + 1) (N + 1))
  c1 : w.cell? ⟨S, 1, none⟩ = some (.slice (some ⟨R, 0, none⟩) k M)
  c5 : w.cell? ⟨S, 5, none⟩ = some (.slice (some ⟨Q, 0, none⟩) P P)
  rA : Room w A ((N + 1) * 22)
  rR : Room w R (M * 3)
  rQ : Room w Q (P * 23)

theorem Snap.kept {W w w' : World} {S A R Q N P M k : Nat} (h : Snap W w S A R Q N P M k) (hb : Below W.heap.size W w') (hs : w.heap.size ≤ w'.heap.size)
    (e1 : w'.heap[S]? = w.heap[S]?) (e2 : w'.heap[A]? = w.heap[A]?) (e3 : w'.heap[R]? = w.heap[R]?) (e4 : w'.heap[Q]? = w.heap[Q]?) : Snap W w' S A R Q N P M k :=
  ⟨hb, h.new, h.ne, Nat.lt_of_lt_of_le h.lt hs, fun j => by rw [World.frozen?_of_block (w := w) (a := ⟨S, j, none⟩) e1]; exact h.fs j,
    by rw [World.cell?_of_block (w := w) (a := ⟨S, 0, none⟩) e1]; exact h.c0, by rw [World.cell?_of_block (w := w) (a := ⟨S, 1, none⟩) e1]; exact h.c1, by rw [World.cell?_of_block (w := w) (a := ⟨S, 5, none⟩) e1]; exact h.c5,
    h.rA.kept hs e2, h.rR.kept hs e3, h.rQ.kept hs e4⟩

/-- behind a draw -/
theorem Snap.only {W w w' : World} {S A R Q N P M k q : Nat} (h : Snap W w S A R Q N P M k) (ho : Only q w w') (hq : W.heap.size ≤ q) (n1 : S ≠ q) (n2 : A ≠ q) (n3 : R ≠ q) (n4 : Q ≠ q) : Snap W w' S A R Q N P M k :=
  h.kept (h.bel.trans (ho.bel.mono hq)) ho.bel.size (ho.rest S n1 h.lt) (ho.rest A n2 h.rA.1) (ho.rest R n3 h.rR.1) (ho.rest Q n4 h.rQ.1)
/-- behind a call that turns nothing -/
theorem Snap.below {W w w' : World} {S A R Q N P M k : Nat} (h : Snap W w S A R Q N P M k) (hb : Below w.heap.size w w') : Snap W w' S A R Q N P M k :=
  h.kept (h.bel.trans (hb.mono h.bel.size)) hb.size (hb.block S h.lt) (hb.block A h.rA.1) (hb.block R h.rR.1) (hb.block Q h.rQ.1)

theorem cell_of_cells {w : World} {b : Nat} {cs : Array Value} {e : TypeId} (h : w.heap[b]? = some (.cells cs e)) (o : Nat) : w.cell? ⟨b, o, none⟩ = cs[o]? := by
  unfold World.cell?
  simp only [h]
  rfl
theorem frozen_of_cells {w : World} {b : Nat} {cs : Array Value} {e : TypeId} (h : w.heap[b]? = some (.cells cs e)) (o : Nat) : w.frozen? ⟨b, o, none⟩ = false := by
  unfold World.frozen?
  simp only [h]
  simp
theorem lt_of_block {w : World} {b : Nat} {x : Obj} (h : w.heap[b]? = some x) : b < w.heap.size := by
  rcases Nat.lt_or_ge b w.heap.size with h' | h'
  · exact h'
  · rw [Array.getElem?_eq_none h'] at h; cases h
theorem room_of_cells {w : World} {b : Nat} {cs : Array Value} {e : TypeId} (h : w.heap[b]? = some (.cells cs e)) (n : Nat) (hn : cs.size = n) : Room w b n := by
  subst hn
  exact ⟨lt_of_block h, fun j hj => ⟨cs[j], by rw [cell_of_cells h]; simp [hj]⟩, fun j => frozen_of_cells h j⟩

theorem heap_four (w : World) (o1 o2 o3 o4 : Obj) :
    let x := ((((w.alloc o1).alloc o2).alloc o3).alloc o4).drew
    x.heap[w.heap.size]? = some o1 ∧ x.heap[w.heap.size + 1]? = some o2 ∧ x.heap[w.heap.size + 1 + 1]? = some o3 ∧ x.heap[w.heap.size + 1 + 1 + 1]? = some o4 ∧ Below w.heap.size w x := by
  refine ⟨?_, ?_, ?_, ?_, ?_⟩
  · show ((((w.heap.push o1).push o2).push o3).push o4)[w.heap.size]? = _
    simp only [Array.getElem?_push, Array.size_push]
    rw [if_neg (by omega), if_neg (by omega), if_neg (by omega), if_pos trivial]
  · show ((((w.heap.push o1).push o2).push o3).push o4)[w.heap.size + 1]? = _
    simp only [Array.getElem?_push, Array.size_push]
    rw [if_neg (by omega), if_neg (by omega), if_pos trivial]
  · show ((((w.heap.push o1).push o2).push o3).push o4)[w.heap.size + 1 + 1]? = _
    simp only [Array.getElem?_push, Array.size_push]
    rw [if_neg (by omega), if_pos trivial]
  · show ((((w.heap.push o1).push o2).push o3).push o4)[w.heap.size + 1 + 1 + 1]? = _
    simp only [Array.getElem?_push, Array.size_push]
    rw [if_pos trivial]
  · have e1 := (Below.refl w.heap.size w).alloc (Nat.le_refl _) o1
    have e2 := e1.alloc e1.size o2
    have e3 := e2.alloc e2.size o3
    exact (e3.alloc e3.size o4).drew

theorem Snap.ofBlocks {W w : World} {S A R Q N P M : Nat} {c2 c3 c4 c6 c7 : Value} {cA cR cQ : Array Value} {e eA eR eQ : TypeId} (bel : Below W.heap.size W w) (hS : w.heap[S]? = some (.cells #[.slice (some ⟨A, 0, none⟩) (N + 1) (N + 1), .slice (some ⟨R, 0, none⟩) 0 M, c2, c3, c4, .slice (some ⟨Q, 0, none⟩) P P, c6, c7] e))
    (hA : w.heap[A]? = some (.cells cA eA)) (hR : w.heap[R]? = some (.cells cR eR)) (hQ : w.heap[Q]? = some (.cells cQ eQ)) (nA : cA.size = (N + 1) * 22) (nR : cR.size = M * 3) (nQ : cQ.size = P * 23)
    (new : W.heap.size ≤ S ∧ W.heap.size ≤ A ∧ W.heap.size ≤ R ∧ W.heap.size ≤ Q) (ne : S ≠ A ∧ S ≠ R ∧ S ≠ Q ∧ A ≠ R ∧ A ≠ Q ∧ R ≠ Q) : Snap W w S A R Q N P M 0 :=
  ⟨bel, new, ne, lt_of_block hS, frozen_of_cells hS, cell_of_cells hS 0, cell_of_cells hS 1, cell_of_cells hS 5, room_of_cells hA _ nA, room_of_cells hR _ nR, room_of_cells hQ _ nQ⟩

/-- the states of the nodes' stream -/
def nst (seed : Nat) : Nat → Nat
  | 0 => seed * 18446744073709551616 + 4
  | i + 1 => uniS 10 1000 (uniS 1024 16384 (uniS 1000 8000 (nst seed i)))
def nCpu (seed i : Nat) : Nat := uniN 1000 8000 (nst seed i)
def nMem (seed i : Nat) : Nat := uniN 1024 16384 (uniS 1000 8000 (nst seed i))
def nBw (seed i : Nat) : Nat := uniN 10 1000 (uniS 1024 16384 (uniS 1000 8000 (nst seed i)))
/-- node i's name -/
def nName (F : Interp) (N i : Nat) : ByteArray := if i = 0 then ⟨#[109, 97, 115, 116, 101, 114]⟩ else numText F ⟨#[110]⟩ i N

/-- the states of the round trips' stream -/
def rst (seed : Nat) : Nat → Nat
  | 0 => seed * 18446744073709551616 + 5
  | i + 1 => uniS 100 30000 (rst seed i)
/-- the l-th pair of nodes -/
def pairAt (N : Nat) : Nat → Nat × Nat
  | 0 => (0, 1)
  | l + 1 => if (pairAt N l).2 < N then ((pairAt N l).1, (pairAt N l).2 + 1) else ((pairAt N l).1 + 1, (pairAt N l).1 + 2)

/-- the states of the pods' stream -/
def pt1 (s : Nat) : Nat := uniS 100 1000 s
def pt2 (s : Nat) : Nat := uniS 128 2048 (pt1 s)
def pt3 (s : Nat) : Nat := uniS 1 20 (pt2 s)
def pt4 (s : Nat) : Nat := uniS 1000 50000 (pt3 s)
def pt5 (s : Nat) : Nat := uniS 1 1000 (pt4 s)
def pt6 (s : Nat) : Nat := uniS 0 5000 (pt5 s)
def pst (seed N : Nat) : Nat → Nat
  | 0 => seed * 18446744073709551616 + 6
  | i + 1 => (draw (N + 1) (pt6 (pst seed N i))).2

def NodesTo (F : Interp) (N seed : Nat) (w : World) (A i : Nat) : Prop := ∀ j, j < i →
  w.cell? ⟨A, j * 22, none⟩ = some (.string (nName F N j)) ∧ w.cell? ⟨A, j * 22 + 1, none⟩ = some (.bool (decide (j ≠ 0))) ∧
  (0 < j → w.cell? ⟨A, j * 22 + 2, none⟩ = some (.float .f64 (fl (nCpu seed (j - 1)))) ∧ w.cell? ⟨A, j * 22 + 3, none⟩ = some (.float .f64 (fl (nMem seed (j - 1)))) ∧ w.cell? ⟨A, j * 22 + 4, none⟩ = some (.float .f64 (fl (nBw seed (j - 1)))))

def RttTo (F : Interp) (N seed : Nat) (w : World) (R k : Nat) : Prop := ∀ l, l < k →
  w.cell? ⟨R, l * 3, none⟩ = some (.string (nName F N (pairAt N l).1)) ∧ w.cell? ⟨R, l * 3 + 1, none⟩ = some (.string (nName F N (pairAt N l).2)) ∧
  w.cell? ⟨R, l * 3 + 2, none⟩ = some (.float .f64 (cents (uniN 100 30000 (rst seed l))))

def PodsTo (F : Interp) (N P seed : Nat) (w : World) (Q k : Nat) : Prop := ∀ l, l < k →
  w.cell? ⟨Q, l * 23, none⟩ = some (.string (numText F ⟨#[112]⟩ (l + 1) P)) ∧
  w.cell? ⟨Q, l * 23 + 2, none⟩ = some (.string (nName F N (draw (N + 1) (pt6 (pst seed N l))).1)) ∧
  w.cell? ⟨Q, l * 23 + 3, none⟩ = some (.float .f64 (fl (uniN 100 1000 (pst seed N l)))) ∧
  w.cell? ⟨Q, l * 23 + 4, none⟩ = some (.float .f64 (fl (uniN 128 2048 (pt1 (pst seed N l))))) ∧
  w.cell? ⟨Q, l * 23 + 5, none⟩ = some (.float .f64 (fl (uniN 1 20 (pt2 (pst seed N l))))) ∧
  w.cell? ⟨Q, l * 23 + 10, none⟩ = some (.float .f64 (dbl (uniN 100 1000 (pst seed N l)))) ∧
  w.cell? ⟨Q, l * 23 + 11, none⟩ = some (.float .f64 (fl (uniN 128 2048 (pt1 (pst seed N l))))) ∧
  w.cell? ⟨Q, l * 23 + 12, none⟩ = some (.string (numText F ⟨#[105]⟩ (l + 1) P)) ∧
  w.cell? ⟨Q, l * 23 + 13, none⟩ = some (.float .f64 (cents (uniN 1000 50000 (pt3 (pst seed N l))))) ∧
  w.cell? ⟨Q, l * 23 + 16, none⟩ = some (.float .f64 (cents (uniN 1 1000 (pt4 (pst seed N l))))) ∧
  w.cell? ⟨Q, l * 23 + 17, none⟩ = some (.float .f64 (cents (uniN 0 5000 (pt5 (pst seed N l)))))

theorem NodesTo.kept {F : Interp} {N seed : Nat} {w w' : World} {A i : Nat} (h : NodesTo F N seed w A i) (e : w'.heap[A]? = w.heap[A]?) : NodesTo F N seed w' A i := by
  have ec : ∀ o, w'.cell? ⟨A, o, none⟩ = w.cell? ⟨A, o, none⟩ := fun o => World.cell?_of_block (w := w) (a := ⟨A, o, none⟩) e
  intro j hj
  simp only [ec]
  exact h j hj
theorem RttTo.kept {F : Interp} {N seed : Nat} {w w' : World} {A i : Nat} (h : RttTo F N seed w A i) (e : w'.heap[A]? = w.heap[A]?) : RttTo F N seed w' A i := by
  have ec : ∀ o, w'.cell? ⟨A, o, none⟩ = w.cell? ⟨A, o, none⟩ := fun o => World.cell?_of_block (w := w) (a := ⟨A, o, none⟩) e
  intro j hj
  simp only [ec]
  exact h j hj
theorem PodsTo.kept {F : Interp} {N P seed : Nat} {w w' : World} {A i : Nat} (h : PodsTo F N P seed w A i) (e : w'.heap[A]? = w.heap[A]?) : PodsTo F N P seed w' A i := by
  have ec : ∀ o, w'.cell? ⟨A, o, none⟩ = w.cell? ⟨A, o, none⟩ := fun o => World.cell?_of_block (w := w) (a := ⟨A, o, none⟩) e
  intro j hj
  simp only [ec]
  exact h j hj
theorem wp_store_list {op : Oper} {a : Act} {w : World} {K : Act → World → Prop} {Q : Exit → Act → World → Prop} (ty : TypeId) (x y : Operand) (ho : op.op = .store ty x y)
    (b o : Nat) (vs : List Value) (hx : a.eval x = .pointer (some ⟨b, o, none⟩)) (hy : a.eval y = .agg vs.toArray) (h1 : vs.all (·.oneCell') = true) (hi : (Tryf.prog.info? ty).map (·.size) = some vs.length)
    (ht : w.there b o vs.length) (h : K (a.put op.dst undef) (w.setCells b o vs)) : op.wp Tryf.prog a w K Q :=
  wp_store_mid ty x y ho b o vs.toArray hx hy (by simpa using ht) (by simpa using hi) (all_oneCell_toArray (List.all_eq_true.1 h1)) h

/-- a whole Node stored into the midst of a row -/
theorem store47 (w : World) (b o : Nat) (nm : ByteArray) (s : Bool) (x y z : Nat) (ht : w.there b o 22) :
    (storeVar 47 ⟨b, o, none⟩ (.agg #[.string nm, .bool s, .float .f64 x, .float .f64 y, .float .f64 z, .float .f64 0, .float .f64 0, .float .f64 0, .float .f64 0, .float .f64 0, .float .f64 0, .float .f64 0, .float .f64 0, .int .i64 0, .int .i64 0, .slice none 0 0, .slice none 0 0, .slice none 0 0, .string ⟨#[]⟩, .string ⟨#[]⟩, .map none, .slice none 0 0])).run Tryf.prog w =
      .ok () (w.setCells b o [.string nm, .bool s, .float .f64 x, .float .f64 y, .float .f64 z, .float .f64 0, .float .f64 0, .float .f64 0, .float .f64 0, .float .f64 0, .float .f64 0, .float .f64 0, .float .f64 0, .int .i64 0, .int .i64 0, .slice none 0 0, .slice none 0 0, .slice none 0 0, .string ⟨#[]⟩, .string ⟨#[]⟩, .map none, .slice none 0 0]) :=
  run_storeVar_mid w b o 47 _ ht (by kernel_rfl) (all_oneCell_toArray (List.all_eq_true.1 (by rfl)))
/-- a whole Pod stored into the midst of a row -/
theorem store66 (w : World) (b o : Nat) (nm en im : ByteArray) (x1 x2 x3 x4 x5 x6 x7 x8 : Nat) (ht : w.there b o 23) :
    (storeVar 66 ⟨b, o, none⟩ (.agg #[.string nm, .string ⟨#[]⟩, .string en, .float .f64 x1, .float .f64 x2, .float .f64 x3, .bool false, .float .f64 0, .float .f64 0, .float .f64 0, .float .f64 x4, .float .f64 x5, .string im, .float .f64 x6, .slice none 0 0, .slice none 0 0, .float .f64 x7, .float .f64 x8, .float .f64 0, .slice none 0 0, .map none, .slice none 0 0, .slice none 0 0])).run Tryf.prog w =
      .ok () (w.setCells b o [.string nm, .string ⟨#[]⟩, .string en, .float .f64 x1, .float .f64 x2, .float .f64 x3, .bool false, .float .f64 0, .float .f64 0, .float .f64 0, .float .f64 x4, .float .f64 x5, .string im, .float .f64 x6, .slice none 0 0, .slice none 0 0, .float .f64 x7, .float .f64 x8, .float .f64 0, .slice none 0 0, .map none, .slice none 0 0, .slice none 0 0]) :=
  run_storeVar_mid w b o 66 _ ht (by kernel_rfl) (all_oneCell_toArray (List.all_eq_true.1 (by rfl)))
theorem store29 (w : World) (a : Addr) (x : Option Addr) (n c : Nat) : (storeVar 29 a (.slice x n c)).run Tryf.prog w = (store a (.slice x n c)).run Tryf.prog w := by
  simp [go_sem]

theorem below_setCells {B : Nat} (b : Nat) (hB : B ≤ b) : ∀ (vs : List Value) (o : Nat) (w0 w : World), Below B w0 w → Below B w0 (w.setCells b o vs)
  | [], _, _, _, h => h
  | v :: r, o, w0, w, h => below_setCells b hB r (o + 1) w0 (w.setCell ⟨b, o, none⟩ v) (h.setCell hB _)
theorem size_setCells (b : Nat) : ∀ (vs : List Value) (o : Nat) (w : World), (w.setCells b o vs).heap.size = w.heap.size
  | [], _, _ => rfl
  | v :: r, o, w => (size_setCells b r (o + 1) (w.setCell ⟨b, o, none⟩ v)).trans (by simp [World.setCell])

theorem Room.there {w : World} {b sz : Nat} (h : Room w b sz) (o n : Nat) (hn : o + n ≤ sz) : w.there b o n := fun j hj => by
  obtain ⟨v, hv⟩ := h.2.1 (o + j) (by omega)
  exact ⟨by rw [hv]; rfl, h.2.2 _⟩

theorem Snap.set {W w : World} {S A R Q N P M k : Nat} (h : Snap W w S A R Q N P M k) (g : Nat) (hg : g = A ∨ g = R ∨ g = Q) (o : Nat) (vs : List Value) : Snap W (w.setCells g o vs) S A R Q N P M k := by
  have hS : (w.setCells g o vs).heap[S]? = w.heap[S]? := World.heap_setCells_other w g o vs h.lt (by obtain ⟨n1, n2, n3, _⟩ := h.ne; rcases hg with rfl | rfl | rfl <;> assumption)
  have hB : W.heap.size ≤ g := by obtain ⟨_, n1, n2, n3⟩ := h.new; rcases hg with rfl | rfl | rfl <;> assumption
  exact ⟨below_setCells g hB vs o W w h.bel, h.new, h.ne, by rw [size_setCells]; exact h.lt, fun j => by rw [World.frozen?_of_block (w := w) (a := ⟨S, j, none⟩) hS]; exact h.fs j,
    by rw [World.cell?_of_block (w := w) (a := ⟨S, 0, none⟩) hS]; exact h.c0, by rw [World.cell?_of_block (w := w) (a := ⟨S, 1, none⟩) hS]; exact h.c1, by rw [World.cell?_of_block (w := w) (a := ⟨S, 5, none⟩) hS]; exact h.c5,
    h.rA.setCells g o vs, h.rR.setCells g o vs, h.rQ.setCells g o vs⟩

/-- what a region that stores into a row asks: a cell of the snapshot's struct, and the place -/
theorem held_below {w w' : World} {a : Addr} {x : Value} {g o n : Nat} (hb : Below w.heap.size w w') (h : w.cell? a = some x ∧ w.there g o n) (hg : g < w.heap.size) : w'.cell? a = some x ∧ w'.there g o n :=
  ⟨cell_later hb h.1, fun j hj => by rw [hb.cell (p := ⟨g, o + j, none⟩) hg, hb.frozen (p := ⟨g, o + j, none⟩) hg]; exact h.2 j hj⟩
theorem held_set {w : World} {S i : Nat} {x : Value} {g o n : Nat} (vs : List Value) (h : w.cell? ⟨S, i, none⟩ = some x ∧ w.there g o n) (hS : S ≠ g) : (w.setCells g o vs).cell? ⟨S, i, none⟩ = some x ∧ (w.setCells g o vs).there g o n :=
  ⟨by rw [World.cell?_of_block (w := w) (a := ⟨S, i, none⟩) (World.heap_setCells_other w g o vs (World.block_lt_of_cell? _ _ h.1) hS)]; exact h.1, World.there_setCells h.2 g o vs⟩

theorem IsRand.kept {w w' : World} {p q s : Nat} (h : IsRand w p q s) (hs : w.heap.size ≤ w'.heap.size) (e1 : w'.heap[p]? = w.heap[p]?) (e2 : w'.heap[q]? = w.heap[q]?) : IsRand w' p q s := by
  obtain ⟨h1, h2, h3, h4, h5, h6, h7⟩ := h
  refine ⟨Nat.lt_of_lt_of_le h1 hs, h2, ?_, Nat.lt_of_lt_of_le h4 hs, ?_, ?_, fun j => ?_⟩
  · rw [World.cell?_of_block (w := w) (a := ⟨p, 0, none⟩) e1]; exact h3
  · rw [World.cell?_of_block (w := w) (a := ⟨q, 0, none⟩) e2]; exact h5
  · rw [World.cell?_of_block (w := w) (a := ⟨q, 1, none⟩) e2]; exact h6
  · rw [World.frozen?_of_block (w := w) (a := ⟨q, j, none⟩) e2]; exact h7 j
theorem IsRand.below {w w' : World} {p q s : Nat} (h : IsRand w p q s) (hb : Below w.heap.size w w') : IsRand w' p q s :=
  h.kept hb.size (hb.block p h.1) (hb.block q h.2.2.2.1)
theorem IsRand.set {w : World} {p q s : Nat} (h : IsRand w p q s) (g o : Nat) (vs : List Value) (n1 : g ≠ p) (n2 : g ≠ q) : IsRand (w.setCells g o vs) p q s :=
  h.kept (by rw [size_setCells]; exact Nat.le_refl _) (World.heap_setCells_other w g o vs h.1 (Ne.symm n1)) (World.heap_setCells_other w g o vs h.2.2.2.1 (Ne.symm n2))
theorem fl_some (z : Nat) : (some (Value.float .f64 (floatOfInt .f64 (z : Int)))) = some (Value.float .f64 (fl z)) := by rw [fl_spell]

theorem cell_out (w : World) (b o : Nat) (vs : List Value) (o' : Nat) (h : o' < o ∨ o + vs.length ≤ o') : (w.setCells b o vs).cell? ⟨b, o', none⟩ = w.cell? ⟨b, o', none⟩ :=
  World.cell?_setCells_out b vs o w ⟨b, o', none⟩ (fun _ _ => h)

theorem NodesTo.zero (F : Interp) (N seed : Nat) (w : World) (A : Nat) (vs : List Value) (ht : w.there A 0 vs.length) (h0 : vs[0]? = some (.string ⟨#[109, 97, 115, 116, 101, 114]⟩)) (h1 : vs[1]? = some (.bool false)) : NodesTo F N seed (w.setCells A 0 vs) A 1 := by
  intro j hj
  obtain rfl : j = 0 := by omega
  have hr := World.rangeAt_setCells_same w A 0 vs ht
  refine ⟨?_, ?_, fun h => absurd h (Nat.lt_irrefl _)⟩
  · have := hr 0 _ h0
    simpa [nName] using this
  · have := hr 1 _ h1
    simpa using this

theorem NodesTo.succ {F : Interp} {N seed : Nat} {w : World} {A i : Nat} (h : NodesTo F N seed w A i) (hi : 1 ≤ i) (vs : List Value) (hl : vs.length = 22) (ht : w.there A (i * 22) 22) (h0 : vs[0]? = some (.string (numText F ⟨#[110]⟩ i N))) (h1 : vs[1]? = some (.bool true))
    (h2 : vs[2]? = some (.float .f64 (fl (nCpu seed (i - 1))))) (h3 : vs[3]? = some (.float .f64 (fl (nMem seed (i - 1))))) (h4 : vs[4]? = some (.float .f64 (fl (nBw seed (i - 1))))) : NodesTo F N seed (w.setCells A (i * 22) vs) A (i + 1) := by
  intro j hj
  have hr := World.rangeAt_setCells_same w A (i * 22) vs (by rw [hl]; exact ht)
  by_cases e : j = i
  · subst e
    have hne : j ≠ 0 := by omega
    refine ⟨?_, ?_, fun _ => ⟨hr 2 _ h2, hr 3 _ h3, hr 4 _ h4⟩⟩
    · have := hr 0 _ h0
      simpa [nName, hne] using this
    · have := hr 1 _ h1
      simpa [hne] using this
  · have hh := h j (by omega)
    have : j * 22 + 22 ≤ i * 22 := by omega
    rw [cell_out _ _ _ _ _ (Or.inl (by omega)), cell_out _ _ _ _ _ (Or.inl (by omega)), cell_out _ _ _ _ _ (Or.inl (by omega)), cell_out _ _ _ _ _ (Or.inl (by omega)), cell_out _ _ _ _ _ (Or.inl (by omega))]
    exact hh
end Go.Proofs.Qxb6608650aFmt
