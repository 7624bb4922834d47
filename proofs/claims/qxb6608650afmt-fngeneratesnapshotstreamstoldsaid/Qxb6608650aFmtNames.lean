/-
  DERIVED. The names: fmt's front is a stop; what it is asked is told, what it answers is F's.
-/
import Derived.Test.Qxb6608650aFmtUni
import Derived.Stop.IfaceNil
import Derived.Lib.LaidTab
import GoSem.ClaimData
namespace Go.Proofs
open Go.Extern.Stop Go.Stop Go.Extern

@[go_sem] theorem Tryf.call30 (args : Array Value) (w : World) : (callFunc 30 args).run Tryf.prog w = ((FmtStop.sprintf #[9, 88] #[9] args).run Tryf.prog w).andThen fun v w' => .ok (.value v) w' :=
  run_callFunc_extern Tryf.func30 (by kernel_rfl) (by kernel_rfl) (by kernel_rfl) (by kernel_rfl) args w
@[go_sem] theorem Tryf.guard (name : String) (w : World) : (FmtStop.guard name).run Tryf.prog w = .ok () w := by kernel_rfl
@[go_sem] theorem Tryf.fmt0 : FmtStop.printed? ⟨#[37, 115, 37, 48, 42, 100]⟩ 3 = none := by kernel_rfl
def Tryf.shape3 : List UInt8 := [5, 3, 0, 0, 0, 0, 0, 0, 0, 105, 110, 116]
@[go_sem] theorem Tryf.strict3 (name : String) (x : Int) (w : World) : (FmtStop.strict name (.iface 3 (.int .i64 x))).run Tryf.prog w = .ok (Tryf.shape3, Go.Extern.Stop.digits 8 (x % 2 ^ 64).toNat) w := by kernel_rfl
def Tryf.shape9 : List UInt8 := [12, 6, 0, 0, 0, 0, 0, 0, 0, 115, 116, 114, 105, 110, 103]
@[go_sem] theorem Tryf.strict9 (name : String) (x : ByteArray) (w : World) : (FmtStop.strict name (.iface 9 (.string x))).run Tryf.prog w = .ok (Tryf.shape9, FmtStop.pack x.data.toList) w := by kernel_rfl
end Go.Proofs

namespace Go.Proofs.Qxb6608650aFmt
open Go.RowKit Go.Extern.Stop Go.Stop Go.Extern

theorem below_grow (w : World) (k : Nat) (os : Array Obj) : Below w.heap.size w (Sort.grow (w.drewN k) os) := by
  refine ⟨rfl, rfl, rfl, ?_, fun i hi => ?_⟩
  · show w.heap.size ≤ (w.heap ++ os).size
    simp
  · show (w.heap ++ os)[i]? = w.heap[i]?
    rw [Array.getElem?_append, if_pos hi]

/-- the table of the powers of ten lies where the library's text lays it -/
def Tab (w : World) : Prop := Lib.TabIs Tryf.prog w "internal/strconv.uint64pow10" .u64 Lib.pow10Tab

theorem Tab.below {w w' : World} (h : Tab w) (hb : Below w.heap.size w w') : Tab w' := by
  have hg : Tryf.prog.globalNamed "internal/strconv.uint64pow10" = some 0 := by kernel_rfl
  unfold Tab Lib.TabIs World.var? at h ⊢
  rw [hg] at h ⊢
  simp only [Option.bind_some] at h ⊢
  have hlt : 0 < w.heap.size := by
    rcases Nat.lt_or_ge 0 w.heap.size with h' | h'
    · exact h'
    · rw [Array.getElem?_eq_none h'] at h; cases h
  rw [hb.block 0 hlt]
  exact h

/-- What F answers where "%s%0*d" is asked of a prefix, of how many digits n has, and of i. -/
def numText (F : Interp) (pre : ByteArray) (i n : Nat) : ByteArray :=
  FmtStop.textOf (F "fmt.Sprintf" [[37, 115, 37, 48, 42, 100], Tryf.shape9, FmtStop.pack pre.data.toList, Tryf.shape3, digits 8 ((Lib.itoa (n : Int)).toArray.size % 18446744073709551616), Tryf.shape3, digits 8 (i % 18446744073709551616)] 0)

set_option maxHeartbeats 1000000 in
theorem numbered_any (F : Interp) (pre : ByteArray) (i n : Nat) (w : World) (hF : F.answers w.tape) (hT : Tab w) (hn : n < 1000000) :
    Calls Tryf.prog 21 #[.string pre, .int .i64 i, .int .i64 n] w fun e w' => e = .returned (.string (numText F pre i n)) ∧ Below w.heap.size w w' := by
  have HF : Hid (F.answers w.tape) := hF
  clear hF
  go_enter Tryf.func21, Tryf.ntmps21
  go_wp2_with fail
  refine (Tryf.itoa n (by omega) (by omega) _ hT).mono ?_
  rintro e w1 ⟨rfl, k, os, hw⟩
  have hb1 : Below w.heap.size w w1 := by rw [hw]; exact below_grow _ _ _
  clear hw
  have hF1 : F.answers w1.tape := by rw [hb1.tape]; exact HF.out
  have hF' := answers_open hF1
  go_wp2
  go_ret
  refine ⟨?_, (hb1.alloc hb1.size _).drew⟩
  unfold numText
  first | rfl | (simp; done)
end Go.Proofs.Qxb6608650aFmt
