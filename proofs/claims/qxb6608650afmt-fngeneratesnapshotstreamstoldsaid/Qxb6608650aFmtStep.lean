/-
  DERIVED. One round trip appended within its row; the numbers of the pairs.
-/
import Derived.Test.Qxb6608650aFmtMem
import Derived.Deep.RegionLaw
namespace Go.Proofs.Qxb6608650aFmt
open Go.RowKit Go.Extern.Stop Go.Stop Go.Extern

theorem Room.below {w w' : World} {b sz : Nat} (h : Room w b sz) (hb : Below w.heap.size w w') : Room w' b sz := h.kept hb.size (hb.block b h.1)

theorem step_rtt {ops : Array Oper} {o : Oper} {a : Act} {w : World} {K : Act → World → Prop} {Q : Exit → Act → World → Prop} {E : Prop}
    (hg : o.guard = none) (s x : Operand) (hop : o.op = Op.call { callee := Callee.builtin Builtin.append, args := #[s, x], argTypes := #[29, 29] })
    (R k M : Nat) (hs : a.eval s = .slice (some ⟨R, 0, none⟩) k M) (x1 x2 : ByteArray) (x3 : Nat) (hx : a.eval x = .slice (some ⟨w.heap.size, 0, none⟩) 1 1)
    (hr : Room w R (M * 3)) (hk : k < M)
    (hK : K (a.put o.dst (.slice (some ⟨R, 0, none⟩) (k + 1) M)) ((w.alloc (.cells #[.string x1, .string x2, .float .f64 x3] 53)).setCells R (k * 3) [.string x1, .string x2, .float .f64 x3])) :
    if Region.wanted o (yielded ops a.tmps) = true then Oper.wp Tryf.prog o a (w.alloc (.cells #[.string x1, .string x2, .float .f64 x3] 53)) K Q else E := by
  obtain ⟨i, h1, h2, h3, h4⟩ := info_parts info53
  have hr' := hr.below ((Below.refl w.heap.size w).alloc (Nat.le_refl _) (.cells #[.string x1, .string x2, .float .f64 x3] 53))
  refine step_append_room hg s x 29 hop 53 i 3 Tryf.underlying29 h1 h3 R 0 k M hs ⟨w.heap.size, 0, none⟩ 1 1 [.string x1, .string x2, .float .f64 x3] hx rfl (fun j u hj => ?_) (List.all_eq_true.1 (by rfl)) (by omega)
    (hr'.there (0 + k * 3) 3 (by omega)) ?_
  · rw [Addr.add_mid, Nat.zero_add]
    have hb : (w.alloc (.cells #[.string x1, .string x2, .float .f64 x3] 53)).heap[w.heap.size]? = some (.cells #[.string x1, .string x2, .float .f64 x3] 53) := by
      show (w.heap.push _)[w.heap.size]? = _
      simp
    rw [cell_of_cells hb]
    simpa using hj
  · rw [Nat.zero_add]; exact hK

theorem pair_lt {N a b k M : Nat} (h : 2 * k + a * a + a + 2 = 2 * (a * N) + 2 * b) (hab : a < b) (hb : b ≤ N) (hM : 2 * M = (N + 1) * N) : k < M := by
  obtain ⟨d, rfl⟩ : ∃ d, N = a + 1 + d := ⟨N - a - 1, by omega⟩
  have e1 : (a + 1 + d + 1) * (a + 1 + d) = a * a + 3 * a + 2 + 2 * (a * d) + 3 * d + d * d := by grind
  have e2 : a * (a + 1 + d) = a * a + a + a * d := by grind
  omega
theorem pair_next {N a k : Nat} (h : 2 * k + a * a + a + 2 = 2 * (a * N) + 2 * (N + 1)) : 2 * k + (a + 1) * (a + 1) = 2 * ((a + 1) * N) + (a + 1) := by
  have e1 : (a + 1) * (a + 1) = a * a + 2 * a + 1 := by grind
  have e2 : (a + 1) * N = a * N + N := by grind
  omega
theorem pair_end {N k M : Nat} (h : 2 * k + (N + 1) * (N + 1) = 2 * ((N + 1) * N) + (N + 1)) (hM : 2 * M = (N + 1) * N) : k = M := by
  have e1 : (N + 1) * (N + 1) = (N + 1) * N + (N + 1) := by grind
  omega

theorem pair_step1 {N l a b : Nat} (h : pairAt N l = (a, b)) (hb : b < N) : pairAt N (l + 1) = (a, b + 1) := by
  simp [pairAt, h, hb]
theorem pair_step2 {N l a b : Nat} (h : pairAt N l = (a, b)) (hb : ¬ b < N) : pairAt N (l + 1) = (a + 1, a + 2) := by
  simp [pairAt, h, hb]

theorem RttTo.succ {F : Interp} {N seed : Nat} {w : World} {R k : Nat} (h : RttTo F N seed w R k) (vs : List Value) (hl : vs.length = 3) (ht : w.there R (k * 3) 3) (h0 : vs[0]? = some (.string (nName F N (pairAt N k).1))) (h1 : vs[1]? = some (.string (nName F N (pairAt N k).2)))
    (h2 : vs[2]? = some (.float .f64 (cents (uniN 100 30000 (rst seed k))))) : RttTo F N seed (w.setCells R (k * 3) vs) R (k + 1) := by
  intro j hj
  have hr := World.rangeAt_setCells_same w R (k * 3) vs (by rw [hl]; exact ht)
  by_cases e : j = k
  · subst e
    exact ⟨hr 0 _ h0, hr 1 _ h1, hr 2 _ h2⟩
  · have hh := h j (by omega)
    have : j * 3 + 3 ≤ k * 3 := by omega
    rw [cell_out _ _ _ _ _ (Or.inl (by omega)), cell_out _ _ _ _ _ (Or.inl (by omega)), cell_out _ _ _ _ _ (Or.inl (by omega))]
    exact hh

/-- the struct's cell of the round trips turned: k + 1 of them -/
theorem Snap.setHead {W w : World} {S A R Q N P M k : Nat} (h : Snap W w S A R Q N P M k) (k' : Nat) : Snap W (w.setCell ⟨S, 1, none⟩ (.slice (some ⟨R, 0, none⟩) k' M)) S A R Q N P M k' := by
  have hb : ∀ b, S ≠ b → (w.setCell ⟨S, 1, none⟩ (.slice (some ⟨R, 0, none⟩) k' M)).heap[b]? = w.heap[b]? := fun b hb => Below.heap_setCell w ⟨S, 1, none⟩ _ b (Ne.symm hb)
  have hsz : w.heap.size ≤ (w.setCell ⟨S, 1, none⟩ (.slice (some ⟨R, 0, none⟩) k' M)).heap.size := by simp [World.setCell]
  obtain ⟨n1, n2, n3, _⟩ := h.ne
  exact ⟨h.bel.setCell h.new.1 _, h.new, h.ne, by simpa [World.setCell] using h.lt, fun j => by rw [World.frozen?_setCell]; exact h.fs j, (cell_set_ne (by decide)).trans h.c0,
    World.cell?_setCell_same _ _ _ h.c1, (cell_set_ne (by decide)).trans h.c5, h.rA.kept hsz (hb A n1), h.rR.kept hsz (hb R n2), h.rQ.kept hsz (hb Q n3)⟩
theorem there_lt {w : World} {g o n : Nat} (h : w.there g o n) (hn : 0 < n) : g < w.heap.size := by
  obtain ⟨v, hv⟩ := Option.isSome_iff_exists.1 (h 0 hn).1
  exact World.block_lt_of_cell? _ _ hv
theorem held_next {w w' : World} {a : Addr} {x : Value} {g o n : Nat} (hb : Below w.heap.size w w') (h : w.cell? a = some x ∧ w.there g o n) (hn : 0 < n) : w'.cell? a = some x ∧ w'.there g o n :=
  held_below hb h (there_lt h.2 hn)
theorem duo_only {q : Nat} {w w' : World} {S A oa : Nat} {x y : Value} (ho : Only q w w') (h : w.cell? ⟨S, 0, none⟩ = some x ∧ w.cell? ⟨A, oa, none⟩ = some y) (n1 : S ≠ q) (n2 : A ≠ q) : w'.cell? ⟨S, 0, none⟩ = some x ∧ w'.cell? ⟨A, oa, none⟩ = some y :=
  ⟨(ho.cell (p := ⟨S, 0, none⟩) n1 (World.block_lt_of_cell? _ _ h.1)).trans h.1, (ho.cell (p := ⟨A, oa, none⟩) n2 (World.block_lt_of_cell? _ _ h.2)).trans h.2⟩

theorem PodsTo.succ {F : Interp} {N P seed : Nat} {w : World} {Q k : Nat} (h : PodsTo F N P seed w Q k) (vs : List Value) (hl : vs.length = 23) (ht : w.there Q (k * 23) 23)
    (h0 : vs[0]? = some (.string (numText F ⟨#[112]⟩ (k + 1) P))) (h2 : vs[2]? = some (.string (nName F N (draw (N + 1) (pt6 (pst seed N k))).1))) (h3 : vs[3]? = some (.float .f64 (fl (uniN 100 1000 (pst seed N k))))) (h4 : vs[4]? = some (.float .f64 (fl (uniN 128 2048 (pt1 (pst seed N k)))))) (h5 : vs[5]? = some (.float .f64 (fl (uniN 1 20 (pt2 (pst seed N k))))))
    (h10 : vs[10]? = some (.float .f64 (dbl (uniN 100 1000 (pst seed N k))))) (h11 : vs[11]? = some (.float .f64 (fl (uniN 128 2048 (pt1 (pst seed N k)))))) (h12 : vs[12]? = some (.string (numText F ⟨#[105]⟩ (k + 1) P))) (h13 : vs[13]? = some (.float .f64 (cents (uniN 1000 50000 (pt3 (pst seed N k))))))
    (h16 : vs[16]? = some (.float .f64 (cents (uniN 1 1000 (pt4 (pst seed N k)))))) (h17 : vs[17]? = some (.float .f64 (cents (uniN 0 5000 (pt5 (pst seed N k)))))) : PodsTo F N P seed (w.setCells Q (k * 23) vs) Q (k + 1) := by
  intro j hj
  have hr := World.rangeAt_setCells_same w Q (k * 23) vs (by rw [hl]; exact ht)
  by_cases e : j = k
  · subst e
    exact ⟨hr 0 _ h0, hr 2 _ h2, hr 3 _ h3, hr 4 _ h4, hr 5 _ h5, hr 10 _ h10, hr 11 _ h11, hr 12 _ h12, hr 13 _ h13, hr 16 _ h16, hr 17 _ h17⟩
  · have hh := h j (by omega)
    have : j * 23 + 23 ≤ k * 23 := by omega
    have ec : ∀ o, o < 23 → (w.setCells Q (k * 23) vs).cell? ⟨Q, j * 23 + o, none⟩ = w.cell? ⟨Q, j * 23 + o, none⟩ := fun o ho => cell_out _ _ _ _ _ (Or.inl (by omega))
    have e0 := ec 0 (by decide)
    rw [Nat.add_zero] at e0
    rw [e0, ec 2 (by decide), ec 3 (by decide), ec 4 (by decide), ec 5 (by decide), ec 10 (by decide), ec 11 (by decide), ec 12 (by decide), ec 13 (by decide), ec 16 (by decide), ec 17 (by decide)]
    exact hh

/-- three cells, one of S and two of A -/
theorem trip_kept {w w' : World} {S A oa ob : Nat} {x y z : Value} (h : w.cell? ⟨S, 0, none⟩ = some x ∧ w.cell? ⟨A, oa, none⟩ = some y ∧ w.cell? ⟨A, ob, none⟩ = some z) (e1 : w'.heap[S]? = w.heap[S]?) (e2 : w'.heap[A]? = w.heap[A]?) :
    w'.cell? ⟨S, 0, none⟩ = some x ∧ w'.cell? ⟨A, oa, none⟩ = some y ∧ w'.cell? ⟨A, ob, none⟩ = some z :=
  ⟨(World.cell?_of_block (w := w) (a := ⟨S, 0, none⟩) e1).trans h.1, (World.cell?_of_block (w := w) (a := ⟨A, oa, none⟩) e2).trans h.2.1, (World.cell?_of_block (w := w) (a := ⟨A, ob, none⟩) e2).trans h.2.2⟩
theorem trip_alloc {w : World} {S A oa ob : Nat} {x y z : Value} (h : w.cell? ⟨S, 0, none⟩ = some x ∧ w.cell? ⟨A, oa, none⟩ = some y ∧ w.cell? ⟨A, ob, none⟩ = some z) (o : Obj) :
    (w.alloc o).cell? ⟨S, 0, none⟩ = some x ∧ (w.alloc o).cell? ⟨A, oa, none⟩ = some y ∧ (w.alloc o).cell? ⟨A, ob, none⟩ = some z :=
  trip_kept h (Below.heap_alloc w o S (World.block_lt_of_cell? _ _ h.1)) (Below.heap_alloc w o A (World.block_lt_of_cell? _ _ h.2.1))
theorem trip_set {w : World} {S A oa ob : Nat} {x y z : Value} (g o : Nat) (vs : List Value) (h : w.cell? ⟨S, 0, none⟩ = some x ∧ w.cell? ⟨A, oa, none⟩ = some y ∧ w.cell? ⟨A, ob, none⟩ = some z) (n1 : S ≠ g) (n2 : A ≠ g) :
    (w.setCells g o vs).cell? ⟨S, 0, none⟩ = some x ∧ (w.setCells g o vs).cell? ⟨A, oa, none⟩ = some y ∧ (w.setCells g o vs).cell? ⟨A, ob, none⟩ = some z :=
  trip_kept h (World.heap_setCells_other w g o vs (World.block_lt_of_cell? _ _ h.1) n1) (World.heap_setCells_other w g o vs (World.block_lt_of_cell? _ _ h.2.1) n2)
theorem trip_head {w : World} {S A oa ob : Nat} {x y z : Value} (v : Value) (h : w.cell? ⟨S, 0, none⟩ = some x ∧ w.cell? ⟨A, oa, none⟩ = some y ∧ w.cell? ⟨A, ob, none⟩ = some z) (n1 : S ≠ A) :
    (w.setCell ⟨S, 1, none⟩ v).cell? ⟨S, 0, none⟩ = some x ∧ (w.setCell ⟨S, 1, none⟩ v).cell? ⟨A, oa, none⟩ = some y ∧ (w.setCell ⟨S, 1, none⟩ v).cell? ⟨A, ob, none⟩ = some z := by
  have e : (w.setCell ⟨S, 1, none⟩ v).heap[A]? = w.heap[A]? := Below.heap_setCell w ⟨S, 1, none⟩ v A (Ne.symm n1)
  exact ⟨(cell_set_ne (by decide)).trans h.1, (World.cell?_of_block (w := w) (a := ⟨A, oa, none⟩) e).trans h.2.1, (World.cell?_of_block (w := w) (a := ⟨A, ob, none⟩) e).trans h.2.2⟩

theorem after_app {W w : World} {S A R Q N P M l : Nat} (h : Snap W w S A R Q N P M l) (o : Obj) (vs : List Value) :
    ((w.alloc o).setCells R (l * 3) vs).cell? ⟨S, 1, none⟩ = some (.slice (some ⟨R, 0, none⟩) l M) ∧ ((w.alloc o).setCells R (l * 3) vs).frozen? ⟨S, 1, none⟩ = false := by
  have h2 := (h.below ((Below.refl w.heap.size w).alloc (Nat.le_refl _) o)).set R (Or.inr (Or.inl rfl)) (l * 3) vs
  exact ⟨h2.c1, h2.fs 1⟩

theorem rtt_done {F : Interp} {W w : World} {S A R Q N P M l p q s seed : Nat} (h : Snap W w S A R Q N P M l) (hN : NodesTo F N seed w A (N + 1)) (hR : RttTo F N seed w R l) (hI : IsRand w p q s) (hl : l < M)
    (n1 : S ≠ p) (n2 : S ≠ q) (n3 : R ≠ p) (n4 : R ≠ q) (o : Obj) (vs : List Value) (hv : vs.length = 3) (h0 : vs[0]? = some (.string (nName F N (pairAt N l).1))) (h1 : vs[1]? = some (.string (nName F N (pairAt N l).2)))
    (h2 : vs[2]? = some (.float .f64 (cents (uniN 100 30000 (rst seed l))))) :
    let w' := ((w.alloc o).setCells R (l * 3) vs).setCell ⟨S, 1, none⟩ (.slice (some ⟨R, 0, none⟩) (l + 1) M)
    IsRand w' p q s ∧ Snap W w' S A R Q N P M (l + 1) ∧ NodesTo F N seed w' A (N + 1) ∧ RttTo F N seed w' R (l + 1) := by
  have hb := (Below.refl w.heap.size w).alloc (Nat.le_refl _) o
  have a1 := h.below hb
  have a2 := a1.set R (Or.inr (Or.inl rfl)) (l * 3) vs
  obtain ⟨e1, e2, e3, e4, e5, e6⟩ := h.ne
  have hh : ∀ b, b ≠ S → (((w.alloc o).setCells R (l * 3) vs).setCell ⟨S, 1, none⟩ (.slice (some ⟨R, 0, none⟩) (l + 1) M)).heap[b]? = ((w.alloc o).setCells R (l * 3) vs).heap[b]? := fun b hb => Below.heap_setCell _ ⟨S, 1, none⟩ _ b hb
  have hs : ((w.alloc o).setCells R (l * 3) vs).heap.size ≤ (((w.alloc o).setCells R (l * 3) vs).setCell ⟨S, 1, none⟩ (.slice (some ⟨R, 0, none⟩) (l + 1) M)).heap.size := by simp [World.setCell]
  refine ⟨((hI.below hb).set R (l * 3) vs n3 n4).kept hs (hh p (Ne.symm n1)) (hh q (Ne.symm n2)), a2.setHead (l + 1), ?_, ?_⟩
  · refine NodesTo.kept ?_ (hh A (Ne.symm e1))
    exact (hN.kept (hb.block A h.rA.1)).kept (World.heap_setCells_other _ R _ vs a1.rA.1 e4)
  · refine RttTo.kept ?_ (hh R (Ne.symm e2))
    exact (hR.kept (hb.block R h.rR.1)).succ vs hv (a1.rR.there _ _ (by omega)) h0 h1 h2
end Go.Proofs.Qxb6608650aFmt
