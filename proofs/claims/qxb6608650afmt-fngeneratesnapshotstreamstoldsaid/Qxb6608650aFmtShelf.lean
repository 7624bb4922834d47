/-
  DERIVED. The library's functions on the road whose contracts lie on the shelf: laid at this program.
-/
import Derived.Test.Qxb6608650aFmtProg
import Derived.Shelf.Bits.Mul64
import Derived.Shelf.Strconv.Itoa3
import Derived.Shelf.Lay
import Derived.Ground.NamesProg
import Derived.Laws.Externs
import Derived.Stop.CallBack
namespace Go.Proofs
open Go.Shelf

shelf_lay Lays.n264 Nm 264 at Tryf as Tryf.laysMul64
shelf_lay LaysM.n171 Nm 171 at Tryf as Tryf.laysItoa

theorem Tryf.mul64 (x y : Nat) (hx : x < 18446744073709551616) (hy : y < 18446744073709551616) (w : World) :
    Calls Tryf.prog 36 #[.int .u64 x, .int .u64 y] w fun e w' => e = .returned (.tuple #[.int .u64 ((x * y / 18446744073709551616 : Nat) : Int), .int .u64 ((x * y % 18446744073709551616 : Nat) : Int)]) ∧ w' = w :=
  Any.bits_Mul64 Tryf.laysMul64 x y hx hy w

theorem Tryf.itoa (n : Int) (h0 : -9223372036854775808 ≤ n) (h1 : n ≤ 9223372036854775807) (w : World) (htab : Lib.TabIs Tryf.prog w "internal/strconv.uint64pow10" .u64 Lib.pow10Tab) :
    Calls Tryf.prog 31 #[.int .i64 n] w fun e w' => e = .returned (.string ⟨(Lib.itoa n).toArray⟩) ∧ ∃ k os, w' = Sort.grow (w.drewN k) os :=
  Any.strconv_Itoa Tryf.laysItoa n h0 h1 w htab

theorem Tryf.add64 (x y c : Nat) (hc : c ≤ 1) (w : World) :
    (callFunc 74 #[.int .u64 x, .int .u64 y, .int .u64 c]).run Tryf.prog w =
      .ok (.value (.tuple #[.int .u64 (((x + y + c) % 18446744073709551616 : Nat) : Int), .int .u64 (((x + y + c) / 18446744073709551616 : Nat) : Int)])) w := by
  rw [run_callFunc_extern Tryf.func74 (by kernel_rfl) (by kernel_rfl) (by kernel_rfl) (e := add64Entry) (by kernel_rfl), run_add64 x y c (by omega) (by omega) (by omega) (by omega)]
  simp only [Result.andThen]
  congr 5 <;> omega
end Go.Proofs
