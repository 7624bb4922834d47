/-
  A slice cut in two.
-/
import Derived.Test.Qxb6608620aCounts
namespace Go.Proofs.Qxb6608620a
open Go.RowKit

theorem sizeOf1 {e : TypeId} {z : Value} {bytes : Nat} (hi : (Try.prog.info? e).map (fun i => (i.zero, i.size, i.bytes)) = some (some z, 1, bytes)) (w : World) : (sizeOf e).run Try.prog w = .ok 1 w := by
  obtain ⟨i, h1, _, h3, _⟩ := info_parts hi
  simp [sizeOf, typeInfo, h1, h3]
theorem run_take {t e : TypeId} {z : Value} {bytes : Nat} (ht : Try.prog.underlying t = some (.slice e)) (hi : (Try.prog.info? e).map (fun i => (i.zero, i.size, i.bytes)) = some (some z, 1, bytes)) (a : Option Addr) (n cap c : Nat) (hc : c ≤ cap) (w : World) :
    (Instr.slice t (.slice a n cap) none (some (.int .i64 (c : Int))) none).run Try.prog w = .ok (.slice (if cap = 0 then a else a.map (·.add 0)) c cap) w := by
  simp [Instr.slice, run_underlying ht, Instr.sliceBounds, Instr.sliceBound, asIntOf, sizeOf1 hi, hc]
theorem run_drop {t e : TypeId} {z : Value} {bytes : Nat} (ht : Try.prog.underlying t = some (.slice e)) (hi : (Try.prog.info? e).map (fun i => (i.zero, i.size, i.bytes)) = some (some z, 1, bytes)) (a : Option Addr) (n cap c : Nat) (hc : c ≤ n) (w : World) :
    (Instr.slice t (.slice a n cap) (some (.int .i64 (c : Int))) none none).run Try.prog w = .ok (.slice (if cap = c then a else a.map (·.add c)) (n - c) (cap - c)) w := by
  simp [Instr.slice, run_underlying ht, Instr.sliceBounds, Instr.sliceBound, asIntOf, sizeOf1 hi, hc]
theorem add_plain (b off k : Nat) : (⟨b, off, none⟩ : Addr).add k = ⟨b, off + k, none⟩ := by
  unfold Addr.add; split <;> simp_all

theorem Row.cut_take {w : World} {a : Option Addr} {n cap c : Nat} {E : Value → Nat → Prop} (h : Row w (.slice a n cap) n E) (hc : c ≤ n) : Row w (.slice (if cap = 0 then a else a.map (·.add 0)) c cap) c E := by
  obtain ⟨a', cap', he, h1, h2, h3⟩ := h
  injection he with e1 _ e3
  subst e1 e3
  refine ⟨_, _, rfl, by omega, h2, fun j hj => ?_⟩
  obtain ⟨b, off, x, rfl, hb, hx, hE⟩ := h3 j (by omega)
  refine ⟨b, off, x, ?_, hb, hx, hE⟩
  split <;> simp [Addr.add]
theorem Row.cut_drop {w : World} {a : Option Addr} {n cap c : Nat} {E : Value → Nat → Prop} (h : Row w (.slice a n cap) n E) (hc : c ≤ n) : Row w (.slice (if cap = c then a else a.map (·.add c)) (n - c) (cap - c)) (n - c) (fun x j => E x (c + j)) := by
  obtain ⟨a', cap', he, h1, h2, h3⟩ := h
  injection he with e1 _ e3
  subst e1 e3
  refine ⟨_, _, rfl, by omega, by omega, fun j hj => ?_⟩
  obtain ⟨b, off, x, rfl, hb, hx, hE⟩ := h3 (c + j) (by omega)
  refine ⟨b, off + c, x, ?_, hb, by rw [Nat.add_assoc]; exact hx, hE⟩
  rw [if_neg (by omega)]
  simp [add_plain]

theorem sumTo_cut (L : Nat → Nat) (c : Nat) : ∀ r, sumTo L (c + r) = sumTo L c + sumTo (fun j => L (c + j)) r
  | 0 => by simp [sumTo]
  | r + 1 => by rw [← Nat.add_assoc, sumTo_succ, sumTo_cut L c r, sumTo_succ]; omega
end Go.Proofs.Qxb6608620a
