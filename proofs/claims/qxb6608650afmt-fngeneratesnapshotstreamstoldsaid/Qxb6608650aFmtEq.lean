/-
  DERIVED. Two equal structs compare equal (floats: no NaN); loads of structs.
-/
import Derived.Test.Qxb6608650aFmtStep
import Derived.Laws.StructEq
namespace Go.Proofs.Qxb6608650aFmt
open Go.RowKit Go.Extern.Stop Go.Stop Go.Extern

theorem feq (d : Nat) (w : World) {x : Nat} (h : NN x) : (Op.equalIn (d + 1) 37 (.float .f64 x) (.float .f64 x)).run Tryf.prog w = .ok true w := by
  simp only [Op.equalIn, Sem.run_bind, run_underlying Tryf.underlying37, Result.andThen_ok, if_true, Sem.run_pure]
  simp only [Op.floatEq, order_self h]
  rfl
theorem seq (d : Nat) (w : World) (x : ByteArray) : (Op.equalIn (d + 1) 9 (.string x) (.string x)).run Tryf.prog w = .ok true w := by
  rw [run_equalIn_string w d 9 x x Tryf.underlying9]
  simp

theorem part37 (w : World) (xs : Array Value) (o : Nat) (v : Value) (h : xs[o]? = some v) : (part 37 xs o).run Tryf.prog w = .ok v w := by
  unfold part isAgg
  simp only [Sem.run_bind, run_underlying Tryf.underlying37, Result.andThen_ok, Sem.run_pure, Bool.false_eq_true, if_false, h]
theorem part9 (w : World) (xs : Array Value) (o : Nat) (v : Value) (h : xs[o]? = some v) : (part 9 xs o).run Tryf.prog w = .ok v w := by
  unfold part isAgg
  simp only [Sem.run_bind, run_underlying Tryf.underlying9, Result.andThen_ok, Sem.run_pure, Bool.false_eq_true, if_false, h]

theorem eq_step {w : World} {d : Nat} {xs ys : Array Value} {nm tg pk : String} {ty off bo : Nat} {em : Bool} {fs : List Field} (v : Value) (hn : (nm == "_") = false) (h1 : (part ty xs off).run Tryf.prog w = .ok v w) (h2 : (part ty ys off).run Tryf.prog w = .ok v w)
    (h3 : (Op.equalIn d ty v v).run Tryf.prog w = .ok true w) : (Op.eqFields d xs ys ({ name := nm, type := ty, offset := off, embedded := em, tag := tg, pkgPath := pk, byteOffset := bo } :: fs)).run Tryf.prog w = (Op.eqFields d xs ys fs).run Tryf.prog w := by
  have hn : nm ≠ "_" := by simpa using hn
  rw [Op.eqFields]
  simp only [hn, ne_eq, not_false_eq_true, if_true, Sem.run_bind, h1, h2, h3, Result.andThen_ok, Bool.not_true, Bool.false_eq_true, if_false]
theorem feq9 (w : World) {x : Nat} (h : NN x) : (Op.equalIn 9999 37 (.float .f64 x) (.float .f64 x)).run Tryf.prog w = .ok true w := feq 9998 w h
theorem seq9 (w : World) (x : ByteArray) : (Op.equalIn 9999 9 (.string x) (.string x)).run Tryf.prog w = .ok true w := seq 9998 w x
theorem eq_done {w : World} {d : Nat} {xs ys : Array Value} : (Op.eqFields d xs ys []).run Tryf.prog w = .ok true w := rfl

theorem neq_go (w : World) (t : TypeId) (xs : Array Value) (ht : Tryf.prog.underlying t = some (.struct (Tryf.prog.fieldsOf t))) (hp : Tryf.prog.stoodInHeld t = false) (h : (Op.eqFields 9999 xs xs (Tryf.prog.fieldsOf t).toList).run Tryf.prog w = .ok true w) : (binOp .neq t (.agg xs) (.agg xs)).run Tryf.prog w = .ok (.bool false) w := by
  have e := run_equalIn_struct w 9999 t xs xs ht hp
  rw [h] at e
  have e2 : (Op.equalIn 10000 t (.agg xs) (.agg xs)).run Tryf.prog w = .ok true w := e
  rw [run_neq_struct, e2]
  rfl

theorem under39 : Tryf.prog.underlying 39 = some (.struct (Tryf.prog.fieldsOf 39)) := by
  unfold Program.fieldsOf; rw [Tryf.underlying39]
theorem fields39 : (Tryf.prog.fieldsOf 39).toList = [{ name := "CPU", type := 37, offset := 0, embedded := false, tag := "", pkgPath := "", byteOffset := 0 }, { name := "Memory", type := 37, offset := 1, embedded := false, tag := "", pkgPath := "", byteOffset := 8 }, { name := "Bandwidth", type := 37, offset := 2, embedded := false, tag := "", pkgPath := "", byteOffset := 16 }] := by
  unfold Program.fieldsOf; rw [Tryf.underlying39]
theorem neq39 (w : World) {a b c : Nat} (ha : NN a) (hb : NN b) (hc : NN c) : (binOp .neq 39 (.agg #[.float .f64 a, .float .f64 b, .float .f64 c]) (.agg #[.float .f64 a, .float .f64 b, .float .f64 c])).run Tryf.prog w = .ok (.bool false) w := by
  refine neq_go w 39 _ under39 (by kernel_rfl) ?_
  rw [fields39,
    eq_step (.float .f64 a) rfl (part37 w (#[.float .f64 a, .float .f64 b, .float .f64 c]) 0 _ rfl) (part37 w (#[.float .f64 a, .float .f64 b, .float .f64 c]) 0 _ rfl) (feq9 w ha), eq_step (.float .f64 b) rfl (part37 w (#[.float .f64 a, .float .f64 b, .float .f64 c]) 1 _ rfl) (part37 w (#[.float .f64 a, .float .f64 b, .float .f64 c]) 1 _ rfl) (feq9 w hb),
    eq_step (.float .f64 c) rfl (part37 w (#[.float .f64 a, .float .f64 b, .float .f64 c]) 2 _ rfl) (part37 w (#[.float .f64 a, .float .f64 b, .float .f64 c]) 2 _ rfl) (feq9 w hc), eq_done]
theorem under56 : Tryf.prog.underlying 56 = some (.struct (Tryf.prog.fieldsOf 56)) := by
  unfold Program.fieldsOf; rw [Tryf.underlying56]
theorem fields56 : (Tryf.prog.fieldsOf 56).toList = [{ name := "CPU", type := 37, offset := 0, embedded := false, tag := "", pkgPath := "", byteOffset := 0 }, { name := "Memory", type := 37, offset := 1, embedded := false, tag := "", pkgPath := "", byteOffset := 8 }] := by
  unfold Program.fieldsOf; rw [Tryf.underlying56]
theorem neq56 (w : World) {a b : Nat} (ha : NN a) (hb : NN b) : (binOp .neq 56 (.agg #[.float .f64 a, .float .f64 b]) (.agg #[.float .f64 a, .float .f64 b])).run Tryf.prog w = .ok (.bool false) w := by
  refine neq_go w 56 _ under56 (by kernel_rfl) ?_
  rw [fields56,
    eq_step (.float .f64 a) rfl (part37 w (#[.float .f64 a, .float .f64 b]) 0 _ rfl) (part37 w (#[.float .f64 a, .float .f64 b]) 0 _ rfl) (feq9 w ha), eq_step (.float .f64 b) rfl (part37 w (#[.float .f64 a, .float .f64 b]) 1 _ rfl) (part37 w (#[.float .f64 a, .float .f64 b]) 1 _ rfl) (feq9 w hb), eq_done]
theorem under53 : Tryf.prog.underlying 53 = some (.struct (Tryf.prog.fieldsOf 53)) := by
  unfold Program.fieldsOf; rw [Tryf.underlying53]
theorem fields53 : (Tryf.prog.fieldsOf 53).toList = [{ name := "A", type := 9, offset := 0, embedded := false, tag := "", pkgPath := "", byteOffset := 0 }, { name := "B", type := 9, offset := 1, embedded := false, tag := "", pkgPath := "", byteOffset := 16 }, { name := "Ms", type := 37, offset := 2, embedded := false, tag := "", pkgPath := "", byteOffset := 32 }] := by
  unfold Program.fieldsOf; rw [Tryf.underlying53]
theorem neq53 (w : World) {a b : ByteArray} {c : Nat} (hc : NN c) : (binOp .neq 53 (.agg #[.string a, .string b, .float .f64 c]) (.agg #[.string a, .string b, .float .f64 c])).run Tryf.prog w = .ok (.bool false) w := by
  refine neq_go w 53 _ under53 (by kernel_rfl) ?_
  rw [fields53,
    eq_step (.string a) rfl (part9 w (#[.string a, .string b, .float .f64 c]) 0 _ rfl) (part9 w (#[.string a, .string b, .float .f64 c]) 0 _ rfl) (seq9 w a), eq_step (.string b) rfl (part9 w (#[.string a, .string b, .float .f64 c]) 1 _ rfl) (part9 w (#[.string a, .string b, .float .f64 c]) 1 _ rfl) (seq9 w b),
    eq_step (.float .f64 c) rfl (part37 w (#[.string a, .string b, .float .f64 c]) 2 _ rfl) (part37 w (#[.string a, .string b, .float .f64 c]) 2 _ rfl) (feq9 w hc), eq_done]
theorem neq37 (w : World) {a : Nat} (ha : NN a) : (binOp .neq 37 (.float .f64 a) (.float .f64 a)).run Tryf.prog w = .ok (.bool false) w := by
  rw [binOp_float_cmp_neq, order_self ha]; rfl
theorem neq9 (w : World) (a : ByteArray) : (binOp .neq 9 (.string a) (.string a)).run Tryf.prog w = .ok (.bool false) w := by
  go_simp

theorem range3 {w : World} {b o : Nat} {x y z : Value} (h0 : w.cell? ⟨b, o, none⟩ = some x) (h1 : w.cell? ⟨b, o + 1, none⟩ = some y) (h2 : w.cell? ⟨b, o + 2, none⟩ = some z) : w.rangeAt b o [x, y, z] := by
  intro j v hv
  match j with
  | 0 => cases hv; exact h0
  | 1 => cases hv; exact h1
  | 2 => cases hv; exact h2
  | j + 3 => cases hv
theorem range2 {w : World} {b o : Nat} {x y : Value} (h0 : w.cell? ⟨b, o, none⟩ = some x) (h1 : w.cell? ⟨b, o + 1, none⟩ = some y) : w.rangeAt b o [x, y] := by
  intro j v hv
  match j with
  | 0 => cases hv; exact h0
  | 1 => cases hv; exact h1
  | j + 2 => cases hv
theorem load39 {w : World} {b o : Nat} {x y z : Value} (h0 : w.cell? ⟨b, o, none⟩ = some x) (h1 : w.cell? ⟨b, o + 1, none⟩ = some y) (h2 : w.cell? ⟨b, o + 2, none⟩ = some z) : (loadVar 39 ⟨b, o, none⟩).run Tryf.prog w = .ok (.agg #[x, y, z]) w :=
  run_loadVar_mid w b o 39 [x, y, z] _ (range3 h0 h1 h2) Tryf.underlying39 rfl (by kernel_rfl)
theorem load53 {w : World} {b o : Nat} {x y z : Value} (h0 : w.cell? ⟨b, o, none⟩ = some x) (h1 : w.cell? ⟨b, o + 1, none⟩ = some y) (h2 : w.cell? ⟨b, o + 2, none⟩ = some z) : (loadVar 53 ⟨b, o, none⟩).run Tryf.prog w = .ok (.agg #[x, y, z]) w :=
  run_loadVar_mid w b o 53 [x, y, z] _ (range3 h0 h1 h2) Tryf.underlying53 rfl (by kernel_rfl)
theorem load56 {w : World} {b o : Nat} {x y : Value} (h0 : w.cell? ⟨b, o, none⟩ = some x) (h1 : w.cell? ⟨b, o + 1, none⟩ = some y) : (loadVar 56 ⟨b, o, none⟩).run Tryf.prog w = .ok (.agg #[x, y]) w :=
  run_loadVar_mid w b o 56 [x, y] _ (range2 h0 h1) Tryf.underlying56 rfl (by kernel_rfl)
theorem cpu_ok (seed i : Nat) : (FloatKind.f64.format.order (fl (nCpu seed i)) 4652007308841189376 == some .lt) = false := by
  unfold nCpu
  have h := uniN_bounds 1000 8000 (nst seed i) (by decide) (by decide)
  exact fl_1000 h.1 h.2
theorem store39 (w : World) (b o : Nat) (x y z : Nat) (ht : w.there b o 3) :
    (storeVar 39 ⟨b, o, none⟩ (.agg #[.float .f64 x, .float .f64 y, .float .f64 z])).run Tryf.prog w = .ok () (w.setCells b o [.float .f64 x, .float .f64 y, .float .f64 z]) :=
  run_storeVar_mid w b o 39 _ ht (by kernel_rfl) (all_oneCell_toArray (List.all_eq_true.1 (by rfl)))
theorem copy39 (wc wr : World) (x1 x2 x3 : Nat) (hb : Below wc.heap.size wc wr) :
    Below wc.heap.size wc ((wr.alloc (.cells #[.float .f64 0, .float .f64 0, .float .f64 0] 39)).setCells wr.heap.size 0 [.float .f64 x1, .float .f64 x2, .float .f64 x3]) ∧
    ((wr.alloc (.cells #[.float .f64 0, .float .f64 0, .float .f64 0] 39)).setCells wr.heap.size 0 [.float .f64 x1, .float .f64 x2, .float .f64 x3]).cell? ⟨wr.heap.size, 0, none⟩ = some (.float .f64 x1) ∧
    ((wr.alloc (.cells #[.float .f64 0, .float .f64 0, .float .f64 0] 39)).setCells wr.heap.size 0 [.float .f64 x1, .float .f64 x2, .float .f64 x3]).cell? ⟨wr.heap.size, 1, none⟩ = some (.float .f64 x2) ∧
    ((wr.alloc (.cells #[.float .f64 0, .float .f64 0, .float .f64 0] 39)).setCells wr.heap.size 0 [.float .f64 x1, .float .f64 x2, .float .f64 x3]).cell? ⟨wr.heap.size, 2, none⟩ = some (.float .f64 x3) := by
  have hr := World.rangeAt_setCells_same (wr.alloc (.cells #[.float .f64 0, .float .f64 0, .float .f64 0] 39)) wr.heap.size 0 [.float .f64 x1, .float .f64 x2, .float .f64 x3] ((Room.made wr #[.float .f64 0, .float .f64 0, .float .f64 0] 39).there 0 3 (by decide))
  exact ⟨below_setCells _ hb.size _ _ _ _ (hb.alloc hb.size _), hr 0 _ rfl, hr 1 _ rfl, hr 2 _ rfl⟩

/-- a node's cells, behind whatever turned nothing of it -/
theorem node_cells {F : Interp} {N seed : Nat} {w wc : World} {S A R Q P M : Nat} (hs : Snap w wc S A R Q N P M M) (hN : NodesTo F N seed wc A (N + 1)) {i : Nat} (hi : 1 ≤ i) (hn : i ≤ N) {wx : World} (hb : Below wc.heap.size wc wx) :
    wx.cell? ⟨S, 0, none⟩ = some (.slice (some ⟨A, 0, none⟩) (N + 1) (N + 1)) ∧ wx.cell? ⟨A, i * 22 + 2, none⟩ = some (.float .f64 (fl (nCpu seed (i - 1)))) ∧ wx.cell? ⟨A, i * 22 + 2 + 1, none⟩ = some (.float .f64 (fl (nMem seed (i - 1)))) ∧ wx.cell? ⟨A, i * 22 + 2 + 2, none⟩ = some (.float .f64 (fl (nBw seed (i - 1)))) := by
  have hnd := (hN i (by omega)).2.2 (by omega)
  exact ⟨(hb.cell (p := ⟨S, 0, none⟩) hs.lt).trans hs.c0, (hb.cell (p := ⟨A, i * 22 + 2, none⟩) hs.rA.1).trans hnd.1, (hb.cell (p := ⟨A, i * 22 + 2 + 1, none⟩) hs.rA.1).trans hnd.2.1, (hb.cell (p := ⟨A, i * 22 + 2 + 2, none⟩) hs.rA.1).trans hnd.2.2⟩
theorem name_cells {F : Interp} {N seed : Nat} {w wc : World} {S A R Q P M : Nat} (hs : Snap w wc S A R Q N P M M) (hN : NodesTo F N seed wc A (N + 1)) {i : Nat} (hn : i ≤ N) {wx : World} (hb : Below wc.heap.size wc wx) :
    wx.cell? ⟨S, 0, none⟩ = some (.slice (some ⟨A, 0, none⟩) (N + 1) (N + 1)) ∧ wx.cell? ⟨A, i * 22, none⟩ = some (.string (nName F N i)) ∧ wx.cell? ⟨A, i * 22 + 1, none⟩ = some (.bool (decide (i ≠ 0))) := by
  have hnd := hN i (by omega)
  exact ⟨(hb.cell (p := ⟨S, 0, none⟩) hs.lt).trans hs.c0, (hb.cell (p := ⟨A, i * 22, none⟩) hs.rA.1).trans hnd.1, (hb.cell (p := ⟨A, i * 22 + 1, none⟩) hs.rA.1).trans hnd.2.1⟩
theorem rtt_cells {F : Interp} {N seed : Nat} {w wc : World} {S A R Q P M : Nat} (hs : Snap w wc S A R Q N P M M) (hR : RttTo F N seed wc R M) {k : Nat} (hk : k < M) {wx : World} (hb : Below wc.heap.size wc wx) :
    wx.cell? ⟨S, 1, none⟩ = some (.slice (some ⟨R, 0, none⟩) M M) ∧ wx.cell? ⟨R, k * 3, none⟩ = some (.string (nName F N (pairAt N k).1)) ∧ wx.cell? ⟨R, k * 3 + 1, none⟩ = some (.string (nName F N (pairAt N k).2)) ∧ wx.cell? ⟨R, k * 3 + 2, none⟩ = some (.float .f64 (cents (uniN 100 30000 (rst seed k)))) := by
  have hnd := hR k hk
  exact ⟨(hb.cell (p := ⟨S, 1, none⟩) hs.lt).trans hs.c1, (hb.cell (p := ⟨R, k * 3, none⟩) hs.rR.1).trans hnd.1, (hb.cell (p := ⟨R, k * 3 + 1, none⟩) hs.rR.1).trans hnd.2.1, (hb.cell (p := ⟨R, k * 3 + 2, none⟩) hs.rR.1).trans hnd.2.2⟩
theorem pod_cells {F : Interp} {N seed : Nat} {w wc : World} {S A R Q P M : Nat} (hs : Snap w wc S A R Q N P M M) (hP : PodsTo F N P seed wc Q P) {l : Nat} (hl : l < P) {wx : World} (hb : Below wc.heap.size wc wx) :
    wx.cell? ⟨S, 5, none⟩ = some (.slice (some ⟨Q, 0, none⟩) P P) ∧ wx.cell? ⟨Q, l * 23, none⟩ = some (.string (numText F ⟨#[112]⟩ (l + 1) P)) ∧
    wx.cell? ⟨Q, l * 23 + 2, none⟩ = some (.string (nName F N (draw (N + 1) (pt6 (pst seed N l))).1)) ∧
    wx.cell? ⟨Q, l * 23 + 3, none⟩ = some (.float .f64 (fl (uniN 100 1000 (pst seed N l)))) ∧
    wx.cell? ⟨Q, l * 23 + 3 + 1, none⟩ = some (.float .f64 (fl (uniN 128 2048 (pt1 (pst seed N l))))) ∧
    wx.cell? ⟨Q, l * 23 + 3 + 2, none⟩ = some (.float .f64 (fl (uniN 1 20 (pt2 (pst seed N l))))) ∧
    wx.cell? ⟨Q, l * 23 + 10, none⟩ = some (.float .f64 (dbl (uniN 100 1000 (pst seed N l)))) ∧
    wx.cell? ⟨Q, l * 23 + 10 + 1, none⟩ = some (.float .f64 (fl (uniN 128 2048 (pt1 (pst seed N l))))) ∧
    wx.cell? ⟨Q, l * 23 + 12, none⟩ = some (.string (numText F ⟨#[105]⟩ (l + 1) P)) ∧
    wx.cell? ⟨Q, l * 23 + 12 + 1, none⟩ = some (.float .f64 (cents (uniN 1000 50000 (pt3 (pst seed N l))))) ∧
    wx.cell? ⟨Q, l * 23 + 16, none⟩ = some (.float .f64 (cents (uniN 1 1000 (pt4 (pst seed N l))))) ∧
    wx.cell? ⟨Q, l * 23 + 17, none⟩ = some (.float .f64 (cents (uniN 0 5000 (pt5 (pst seed N l))))) := by
  have ec : ∀ o, wx.cell? ⟨Q, o, none⟩ = wc.cell? ⟨Q, o, none⟩ := fun o => hb.cell (p := ⟨Q, o, none⟩) hs.rQ.1
  obtain ⟨h0, h2, h3, h4, h5, h10, h11, h12, h13, h16, h17⟩ := hP l hl
  exact ⟨(hb.cell (p := ⟨S, 5, none⟩) hs.lt).trans hs.c5, (ec _).trans h0, (ec _).trans h2, (ec _).trans h3, (ec _).trans h4, (ec _).trans h5, (ec _).trans h10, (ec _).trans h11, (ec _).trans h12, (ec _).trans h13, (ec _).trans h16, (ec _).trans h17⟩

theorem node_both {F : Interp} {N1 N2 seed : Nat} {w w1 wc : World} {S1 A1 R1 Q1 P1 M1 S2 A2 R2 Q2 P2 M2 : Nat} (h1 : Snap w wc S1 A1 R1 Q1 N1 P1 M1 M1) (g1 : NodesTo F N1 seed wc A1 (N1 + 1)) (h2 : Snap w1 wc S2 A2 R2 Q2 N2 P2 M2 M2) (g2 : NodesTo F N2 seed wc A2 (N2 + 1)) {i : Nat} (hi : 1 ≤ i) (hn1 : i ≤ N1) (hn2 : i ≤ N2) :
    ∃ x1 x2 x3 : Nat, (FloatKind.f64.format.order x1 4652007308841189376 == some .lt) = false ∧
      (∀ w, (binOp .neq 39 (.agg #[.float .f64 x1, .float .f64 x2, .float .f64 x3]) (.agg #[.float .f64 x1, .float .f64 x2, .float .f64 x3])).run Tryf.prog w = .ok (.bool false) w) ∧
      (∀ wx, Below wc.heap.size wc wx → wx.cell? ⟨S1, 0, none⟩ = some (.slice (some ⟨A1, 0, none⟩) (N1 + 1) (N1 + 1)) ∧ wx.cell? ⟨A1, i * 22 + 2, none⟩ = some (.float .f64 x1) ∧ wx.cell? ⟨A1, i * 22 + 2 + 1, none⟩ = some (.float .f64 x2) ∧ wx.cell? ⟨A1, i * 22 + 2 + 2, none⟩ = some (.float .f64 x3)) ∧ (∀ wx, Below wc.heap.size wc wx → wx.cell? ⟨S2, 0, none⟩ = some (.slice (some ⟨A2, 0, none⟩) (N2 + 1) (N2 + 1)) ∧ wx.cell? ⟨A2, i * 22 + 2, none⟩ = some (.float .f64 x1) ∧ wx.cell? ⟨A2, i * 22 + 2 + 1, none⟩ = some (.float .f64 x2) ∧ wx.cell? ⟨A2, i * 22 + 2 + 2, none⟩ = some (.float .f64 x3)) :=
  ⟨_, _, _, cpu_ok seed (i - 1), fun w => neq39 w (fl_nn (nCpu seed (i - 1))) (fl_nn (nMem seed (i - 1))) (fl_nn (nBw seed (i - 1))), fun _ hb => node_cells h1 g1 hi hn1 hb, fun _ hb => node_cells h2 g2 hi hn2 hb⟩
theorem name_both {F : Interp} {N seed : Nat} {w w1 wc : World} {S1 A1 R1 Q1 P1 M1 S2 A2 R2 Q2 P2 M2 : Nat} (h1 : Snap w wc S1 A1 R1 Q1 N P1 M1 M1) (g1 : NodesTo F N seed wc A1 (N + 1)) (h2 : Snap w1 wc S2 A2 R2 Q2 N P2 M2 M2) (g2 : NodesTo F N seed wc A2 (N + 1)) {i : Nat} (hn : i ≤ N) :
    ∃ (s : ByteArray) (b : Bool), (∀ wx, Below wc.heap.size wc wx → wx.cell? ⟨S1, 0, none⟩ = some (.slice (some ⟨A1, 0, none⟩) (N + 1) (N + 1)) ∧ wx.cell? ⟨A1, i * 22, none⟩ = some (.string s) ∧ wx.cell? ⟨A1, i * 22 + 1, none⟩ = some (.bool b)) ∧ (∀ wx, Below wc.heap.size wc wx → wx.cell? ⟨S2, 0, none⟩ = some (.slice (some ⟨A2, 0, none⟩) (N + 1) (N + 1)) ∧ wx.cell? ⟨A2, i * 22, none⟩ = some (.string s) ∧ wx.cell? ⟨A2, i * 22 + 1, none⟩ = some (.bool b)) :=
  ⟨_, _, fun _ hb => name_cells h1 g1 hn hb, fun _ hb => name_cells h2 g2 hn hb⟩
theorem rtt_both {F : Interp} {N seed : Nat} {w w1 wc : World} {S1 A1 R1 Q1 P1 S2 A2 R2 Q2 P2 M : Nat} (h1 : Snap w wc S1 A1 R1 Q1 N P1 M M) (g1 : RttTo F N seed wc R1 M) (h2 : Snap w1 wc S2 A2 R2 Q2 N P2 M M) (g2 : RttTo F N seed wc R2 M) {k : Nat} (hk : k < M) :
    ∃ (s t : ByteArray) (x : Nat), (∀ w, (binOp .neq 53 (.agg #[.string s, .string t, .float .f64 x]) (.agg #[.string s, .string t, .float .f64 x])).run Tryf.prog w = .ok (.bool false) w) ∧
      (∀ wx, Below wc.heap.size wc wx → wx.cell? ⟨S1, 1, none⟩ = some (.slice (some ⟨R1, 0, none⟩) M M) ∧ wx.cell? ⟨R1, k * 3, none⟩ = some (.string s) ∧ wx.cell? ⟨R1, k * 3 + 1, none⟩ = some (.string t) ∧ wx.cell? ⟨R1, k * 3 + 2, none⟩ = some (.float .f64 x)) ∧ (∀ wx, Below wc.heap.size wc wx → wx.cell? ⟨S2, 1, none⟩ = some (.slice (some ⟨R2, 0, none⟩) M M) ∧ wx.cell? ⟨R2, k * 3, none⟩ = some (.string s) ∧ wx.cell? ⟨R2, k * 3 + 1, none⟩ = some (.string t) ∧ wx.cell? ⟨R2, k * 3 + 2, none⟩ = some (.float .f64 x)) :=
  ⟨_, _, _, fun w => neq53 w (cents_nn (uniN 100 30000 (rst seed k))), fun _ hb => rtt_cells h1 g1 hk hb, fun _ hb => rtt_cells h2 g2 hk hb⟩
theorem pod_both {F : Interp} {N seed : Nat} {w w1 wc : World} {S1 A1 R1 Q1 P1 M1 S2 A2 R2 Q2 P2 M2 : Nat} (h1 : Snap w wc S1 A1 R1 Q1 N P1 M1 M1) (g1 : PodsTo F N P1 seed wc Q1 P1) (h2 : Snap w1 wc S2 A2 R2 Q2 N P2 M2 M2) (g2 : PodsTo F N P2 seed wc Q2 P2) {l : Nat} (hl1 : l < P1) (hl2 : l < P2) :
    ∃ (en nm1 nm2 im1 im2 : ByteArray) (x1 x2 x3 x4 x5 x6 x7 : Nat), (P1 = P2 → nm1 = nm2 ∧ im1 = im2) ∧
      (∀ w, (binOp .neq 39 (.agg #[.float .f64 x1, .float .f64 x2, .float .f64 x3]) (.agg #[.float .f64 x1, .float .f64 x2, .float .f64 x3])).run Tryf.prog w = .ok (.bool false) w) ∧
      (∀ w, (binOp .neq 56 (.agg #[.float .f64 x4, .float .f64 x2]) (.agg #[.float .f64 x4, .float .f64 x2])).run Tryf.prog w = .ok (.bool false) w) ∧
      (FloatKind.f64.format.order x5 x5 = some .eq ∧ FloatKind.f64.format.order x6 x6 = some .eq ∧ FloatKind.f64.format.order x7 x7 = some .eq) ∧
      (∀ wx, Below wc.heap.size wc wx → wx.cell? ⟨S1, 5, none⟩ = some (.slice (some ⟨Q1, 0, none⟩) P1 P1) ∧ wx.cell? ⟨Q1, l * 23, none⟩ = some (.string nm1) ∧ wx.cell? ⟨Q1, l * 23 + 2, none⟩ = some (.string en) ∧ wx.cell? ⟨Q1, l * 23 + 3, none⟩ = some (.float .f64 x1) ∧ wx.cell? ⟨Q1, l * 23 + 3 + 1, none⟩ = some (.float .f64 x2) ∧ wx.cell? ⟨Q1, l * 23 + 3 + 2, none⟩ = some (.float .f64 x3) ∧ wx.cell? ⟨Q1, l * 23 + 10, none⟩ = some (.float .f64 x4) ∧ wx.cell? ⟨Q1, l * 23 + 10 + 1, none⟩ = some (.float .f64 x2) ∧ wx.cell? ⟨Q1, l * 23 + 12, none⟩ = some (.string im1) ∧ wx.cell? ⟨Q1, l * 23 + 12 + 1, none⟩ = some (.float .f64 x5) ∧ wx.cell? ⟨Q1, l * 23 + 16, none⟩ = some (.float .f64 x6) ∧ wx.cell? ⟨Q1, l * 23 + 17, none⟩ = some (.float .f64 x7)) ∧ (∀ wx, Below wc.heap.size wc wx → wx.cell? ⟨S2, 5, none⟩ = some (.slice (some ⟨Q2, 0, none⟩) P2 P2) ∧ wx.cell? ⟨Q2, l * 23, none⟩ = some (.string nm2) ∧ wx.cell? ⟨Q2, l * 23 + 2, none⟩ = some (.string en) ∧ wx.cell? ⟨Q2, l * 23 + 3, none⟩ = some (.float .f64 x1) ∧ wx.cell? ⟨Q2, l * 23 + 3 + 1, none⟩ = some (.float .f64 x2) ∧ wx.cell? ⟨Q2, l * 23 + 3 + 2, none⟩ = some (.float .f64 x3) ∧ wx.cell? ⟨Q2, l * 23 + 10, none⟩ = some (.float .f64 x4) ∧ wx.cell? ⟨Q2, l * 23 + 10 + 1, none⟩ = some (.float .f64 x2) ∧ wx.cell? ⟨Q2, l * 23 + 12, none⟩ = some (.string im2) ∧ wx.cell? ⟨Q2, l * 23 + 12 + 1, none⟩ = some (.float .f64 x5) ∧ wx.cell? ⟨Q2, l * 23 + 16, none⟩ = some (.float .f64 x6) ∧ wx.cell? ⟨Q2, l * 23 + 17, none⟩ = some (.float .f64 x7)) :=
  ⟨_, _, _, _, _, _, _, _, _, _, _, _, fun e => by subst e; exact ⟨rfl, rfl⟩, fun w => neq39 w (fl_nn _) (fl_nn _) (fl_nn _), fun w => neq56 w (dbl_nn _) (fl_nn _), ⟨order_self (cents_nn _), order_self (cents_nn _), order_self (cents_nn _)⟩,
    fun _ hb => pod_cells h1 g1 hl1 hb, fun _ hb => pod_cells h2 g2 hl2 hb⟩
end Go.Proofs.Qxb6608650aFmt
