/-
  DERIVED. The walks: a number below n, one between two bounds, hundredths; a stream made.
-/
import Derived.Test.Qxb6608650aFmtDraw
import Derived.Test.Qxb6608650aFmtFl
namespace Go.Proofs.Qxb6608650aFmt
open Go.RowKit

set_option maxHeartbeats 1000000 in
theorem intn_any (p q s n : Nat) (w : World) (h0 : 0 < n) (hn : n < 4611686018427387904) (h : IsRand w p q s) :
    Calls Tryf.prog 23 #[.pointer (some ⟨p, 0, none⟩), .int .i64 n] w fun e w' => e = .returned (.int .i64 (((draw n s).1 : Nat) : Int)) ∧ IsRand w' p q (draw n s).2 ∧ Only q w w' := by
  have HP : Hid (IsRand w p q s) := h
  clear h
  have hb := (draw_bounds n h0 (by omega) s).1
  go_enter Tryf.func23, Tryf.ntmps23
  go_wp2_with fail
  refine (uint64n_any p q s n _ h0 (by omega) HP.out).mono ?_
  rintro e w1 ⟨rfl, h5, h6⟩
  have HR : Hid (IsRand w1 p q (draw n s).2 ∧ Only q w w1) := ⟨h5, h6⟩
  clear h5 h6
  go_wp2
  go_ret
  exact ⟨rfl, HR.out⟩

/-- a draw between two bounds, both included -/
def uniN (lo hi s : Nat) : Nat := lo + (draw (hi - lo + 1) s).1
def uniS (lo hi s : Nat) : Nat := (draw (hi - lo + 1) s).2
theorem uniN_bounds (lo hi s : Nat) (h : lo ≤ hi) (hb : hi < 4611686018427387903) : lo ≤ uniN lo hi s ∧ uniN lo hi s ≤ hi := by
  have := (draw_bounds (hi - lo + 1) (by omega) (by omega) s).1
  unfold uniN
  omega

set_option maxHeartbeats 1000000 in
theorem uniform_any (p q s lo hi : Nat) (w : World) (hle : lo ≤ hi) (hb : hi < 4611686018427387903) (h : IsRand w p q s) :
    Calls Tryf.prog 20 #[.pointer (some ⟨p, 0, none⟩), .int .i64 lo, .int .i64 hi] w fun e w' => e = .returned (.int .i64 ((uniN lo hi s : Nat) : Int)) ∧ IsRand w' p q (uniS lo hi s) ∧ Only q w w' := by
  have HP : Hid (IsRand w p q s) := h
  clear h
  have hu := uniN_bounds lo hi s hle hb
  have e1 : (hi : Int) - lo + 1 = ((hi - lo + 1 : Nat) : Int) := by omega
  have e2 : (lo : Int) + (((draw (hi - lo + 1) s).1 : Nat) : Int) = ((uniN lo hi s : Nat) : Int) := by unfold uniN; omega
  go_enter Tryf.func20, Tryf.ntmps20
  go_wp2_with fail
  refine (intn_any p q s (hi - lo + 1) _ (by omega) (by omega) HP.out).mono ?_
  rintro e w1 ⟨rfl, h5, h6⟩
  have HR : Hid (IsRand w1 p q (uniS lo hi s) ∧ Only q w w1) := ⟨h5, h6⟩
  clear h5 h6
  go_wp2
  go_ret
  exact ⟨rfl, HR.out⟩

theorem conv37 (w : World) (z : Nat) : (convert 3 37 (.int .i64 (z : Int))).run Tryf.prog w = .ok (.float .f64 (fl z)) w := by
  rw [run_convert_int_float w 3 37 .i64 .f64 (z : Int) (by kernel_rfl) Tryf.underlying37]
  unfold fl
  rfl

theorem quo100 (w : World) (z : Nat) : (binOp .quo 37 (.float .f64 (fl z)) (.float .f64 4636737291354636288)).run Tryf.prog w = .ok (.float .f64 (cents z)) w :=
  run_float_arith w .quo 37 .f64 _ _ _ (cents_eq z)

theorem fl_spell (z : Nat) : floatOfInt .f64 (z : Int) = fl z := by unfold fl; rfl

set_option maxHeartbeats 1000000 in
theorem hundredths_any (p q s lo hi : Nat) (w : World) (hle : lo ≤ hi) (hb : hi < 4611686018427387903) (h : IsRand w p q s) :
    Calls Tryf.prog 22 #[.pointer (some ⟨p, 0, none⟩), .int .i64 lo, .int .i64 hi] w fun e w' => e = .returned (.float .f64 (cents (uniN lo hi s))) ∧ IsRand w' p q (uniS lo hi s) ∧ Only q w w' := by
  have HP : Hid (IsRand w p q s) := h
  clear h
  have hq := fun w => quo100 w (uniN lo hi s)
  rw [← fl_spell] at hq
  go_enter Tryf.func22, Tryf.ntmps22
  go_wp2_with fail
  refine (uniform_any p q s lo hi _ hle hb HP.out).mono ?_
  rintro e w1 ⟨rfl, h5, h6⟩
  have HR : Hid (IsRand w1 p q (uniS lo hi s) ∧ Only q w w1) := ⟨h5, h6⟩
  clear h5 h6
  go_wp2
  go_ret
  exact ⟨rfl, HR.out⟩

theorem frozen_new {w : World} {cs : Array Value} {e : TypeId} (j : Nat) : (w.alloc (.cells cs e)).frozen? ⟨w.heap.size, j, none⟩ = false := by
  have e := (MapKept.heap_alloc w (.cells cs e)).1
  unfold World.frozen?
  simp only [e]
  simp
theorem cell_new {w : World} {cs : Array Value} {e : TypeId} (j : Nat) (hj : j < cs.size) : (w.alloc (.cells cs e)).cell? ⟨w.heap.size, j, none⟩ = some cs[j] := by
  have e := (MapKept.heap_alloc w (.cells cs e)).1
  unfold World.cell?
  simp only [e]
  simp [hj]

set_option maxHeartbeats 1000000 in
theorem stream_any (seed part : Nat) (w : World) (hp : part < 18446744073709551616) :
    Calls Tryf.prog 19 #[.int .u64 seed, .int .u64 part] w fun e w' => ∃ p q, e = .returned (.pointer (some ⟨p, 0, none⟩)) ∧ w.heap.size ≤ p ∧ w.heap.size ≤ q ∧ IsRand w' p q (seed * 18446744073709551616 + part) ∧ Below w.heap.size w w' := by
  go_enter Tryf.func19, Tryf.ntmps19
  go_wp2
  go_ret
  have hs : (w.alloc (.cells #[.int .u64 (seed : Int), .int .u64 (part : Int)] 106)).heap.size = w.heap.size + 1 := by simp
  have hb1 : Below w.heap.size w (w.alloc (.cells #[.int .u64 (seed : Int), .int .u64 (part : Int)] 106)) := (Below.refl _ _).alloc (Nat.le_refl _) _
  have hb2 : ∀ cs, Below (w.heap.size + 1) (w.alloc (.cells #[.int .u64 (seed : Int), .int .u64 (part : Int)] 106)) ((w.alloc (.cells #[.int .u64 (seed : Int), .int .u64 (part : Int)] 106)).alloc (.cells cs 104)) := fun cs => (Below.refl _ _).alloc (by omega) _
  refine ⟨w.heap.size + 1, w.heap.size, rfl, by omega, by omega, ⟨by simp, by omega, ?_, by simp; omega, ?_, ?_, fun j => ?_⟩, hb1.trans ((hb2 _).mono (by omega))⟩
  · have := cell_new (w := w.alloc (.cells #[.int .u64 (seed : Int), .int .u64 (part : Int)] 106)) (cs := #[.iface 92 (.pointer (some ⟨w.heap.size, 0, none⟩))]) (e := 104) 0 (by simp)
    rw [hs] at this
    exact this
  · rw [(hb2 _).cell (p := ⟨w.heap.size, 0, none⟩) (by show w.heap.size < _; omega), cell_new 0 (by simp)]
    rw [show (seed * 18446744073709551616 + part) / 18446744073709551616 = seed by omega]
    rfl
  · rw [(hb2 _).cell (p := ⟨w.heap.size, 1, none⟩) (by show w.heap.size < _; omega), cell_new 1 (by simp)]
    rw [show (seed * 18446744073709551616 + part) % 18446744073709551616 = part by omega]
    rfl
  · rw [(hb2 _).frozen (p := ⟨w.heap.size, j, none⟩) (by show w.heap.size < _; omega)]
    exact frozen_new j
end Go.Proofs.Qxb6608650aFmt
