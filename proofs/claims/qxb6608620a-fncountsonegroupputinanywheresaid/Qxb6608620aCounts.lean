/-
  The policy of rows and keys.
-/
import Derived.Test.Qxb6608620aPolicy
import Derived.Deep.RegionWith
namespace Go.Proofs.Qxb6608620a
open Go.RowKit

/-- n nil slices -/
def nilRow (n : Nat) : Array Value := madeCells #[.slice none 0 0] n
theorem nilRow_at (n j : Nat) (h : j < n) : (nilRow n)[j]? = some (.slice none 0 0) := by
  unfold nilRow
  rw [← Array.getElem?_toList, toList_madeCells_one]
  simp [h]
theorem mk_nils {t e : TypeId} (ht : Try.prog.underlying t = some (.slice e)) (hi : (Try.prog.info? e).map (fun i => (i.zero, i.size, i.bytes)) = some (some (.slice none 0 0), 1, 24)) (n : Nat) (hn : n ≤ 1048576) (w : World) :
    (Instr.makeSlice t (.int .i64 (n : Int)) (.int .i64 (n : Int))).run Try.prog w = .ok (.slice (some ⟨w.heap.size, 0, none⟩) n n) (w.alloc (.cells (nilRow n) e)) := by
  obtain ⟨i, h1, h2, h3, h4⟩ := info_parts hi
  have := run_make (P := Try.prog) w t e i _ ht h1 h2 .i64 .i64 n n (by omega) (by omega) (by rw [h4]; omega) (by omega)
  rw [h3] at this
  simpa [Value.cells, nilRow] using this
theorem Nils.made {w : World} {n b : Nat} {e : TypeId} (hb : b = w.heap.size) : Nils (w.alloc (.cells (nilRow n) e)) b n := by
  subst hb
  refine ⟨by simp, fun j hj => ?_⟩
  have e := (MapKept.heap_alloc w (.cells (nilRow n) e)).1
  unfold World.cell?
  simp only [e]
  simp [nilRow_at n j hj]
theorem Nils.alloc {w : World} {n b : Nat} (h : Nils w b n) (o : Obj) : Nils (w.alloc o) b n := h.below ((Below.refl _ _).alloc (Nat.le_refl _) _)

theorem below_alloc {w X : World} (h : Below w.heap.size w X) (o : Obj) : Below w.heap.size w (X.alloc o) := h.alloc h.size o
theorem size_drew (W : World) : W.drew.heap.size = W.heap.size := rfl
theorem Nils.drew {w : World} {n b : Nat} (h : Nils w b n) : Nils w.drew b n := h

set_option maxHeartbeats 400000 in
theorem countsPolicy_any (v u : Value) (n m : Nat) (L : Nat → Nat) (w : World) (h : Rows2 w v n L) (hu : Strs w u m) (hn : n ≤ 1048576) (hm : m ≤ 1048576) (hL : ∀ i, i < n → L i ≤ 1048576) :
    Calls Try.prog 9 #[v, u] w fun e w' => ∃ p, e = .returned p ∧ PolicyAt w' p n L m ∧ Below w.heap.size w w' := by
  have m35 := mk_nils Try.underlying35 info51 m hm
  have m22 := mk_nils Try.underlying22 info23 m hm
  have HU : Hid (Strs w u m) := hu
  obtain ⟨au, capu, rfl, u1, u2, u3⟩ := hu
  clear u3
  have HV : Hid (Rows2 w v n L) := h
  obtain ⟨av, capv, rfl, v1, v2, v3⟩ := h
  clear v3
  have HL : Hid (∀ i, i < n → L i ≤ 1048576) := hL
  clear hL
  go_enter Try.func9, Try.ntmps9
  go_wp2
  go_region_with (first
    | (go_at_call 13; refine (groupsOf_any _ n L _ ?_ hn HL.out).mono ?_; exact HV.out.below (by repeat (first | exact Below.refl _ _ | refine Below.drew ?_ | refine below_alloc ?_ _)); rintro e w13 ⟨rfl, hb13, hs13, hg13⟩)
    | (go_at_call 12; refine (policyOf_any _ _ m _ _ _ ?_ hm ?_ ?_ ⟨_, _, _, rfl⟩).mono ?_; (refine Strs.below HU.out ?_; (repeat (with_reducible (first | exact Below.refl _ _ | refine Below.drew ?_ | refine below_alloc ?_ _ | refine below2 ?_ hb13)))); (repeat (first | (with_reducible (refine Nils.made ?_); focus (first | (with_reducible rfl) | (simp only [World.size_alloc]; done))) | with_reducible (refine Nils.drew ?_) | with_reducible (refine Nils.alloc ?_ _) | with_reducible (refine Nils.below ?_ hb13))); (repeat (first | (with_reducible (refine Nils.made ?_); focus (first | (with_reducible rfl) | (simp only [World.size_alloc]; done))) | with_reducible (refine Nils.drew ?_) | with_reducible (refine Nils.alloc ?_ _) | with_reducible (refine Nils.below ?_ hb13))); rintro e w12 ⟨bp, bt, a, cap, rfl, hb12, l1, l2, l3, l4, q1, q2, q3⟩))
  all_goals
    go_wp2
    go_ret
    have hbel : Below w.heap.size w w12 := by
      refine below2 ?_ hb12
      (repeat (with_reducible (first | exact Below.refl _ _ | refine Below.drew ?_ | refine below_alloc ?_ _ | refine below2 ?_ hb13)))
    have hb3 : Below w13.heap.size w13 w12 := by
      refine below2 ?_ hb12
      (repeat (with_reducible (first | exact Below.refl _ _ | refine Below.drew ?_ | refine below_alloc ?_ _)))
    have hsz := hb3.size
    have hg : ∀ i, i < n → GCell w12 _ i (L i) := fun i hi => (hg13 i hi).below hb3 hs13
    simp only [World.size_alloc, size_drew] at hg hs13
    exact ⟨_, rfl, ⟨_, _, _, _, _, _, rfl, l2, l4, by omega, q1, q2, q3, hg⟩, hbel⟩
end Go.Proofs.Qxb6608620a
