/-
  A slice made anew and filled by 'copy'.
-/
import Derived.Test.Qxb6608650aPlaced
import Derived.Laws.IdiomCopy
namespace Go.Proofs.Qxb6608650a
open Go.RowKit

theorem below_setCells {B : Nat} (b : Nat) (hB : B ≤ b) : ∀ (vs : List Value) (o : Nat) (w0 w : World), Below B w0 w → Below B w0 (w.setCells b o vs)
  | [], _, _, _, h => h
  | v :: r, o, w0, w, h => below_setCells b hB r (o + 1) w0 (w.setCell ⟨b, o, none⟩ v) (h.setCell hB _)

theorem mk_copy {t e : TypeId} {z : Value} {bytes : Nat} (ht : Try.prog.underlying t = some (.slice e)) (hi : (Try.prog.info? e).map (fun i => (i.zero, i.size, i.bytes)) = some (some z, 1, bytes)) (hb : bytes ≤ 300)
    {E : Value → Nat → Prop} (hone : ∀ x j, E x j → x.oneCell' = true) (w : World) (a : Option Addr) (n cap : Nat) (h : Row w (.slice a n cap) n E) (hn : n ≤ 1048576) :
    ∃ w1 w2, (Instr.makeSlice t (.int .i64 (n : Int)) (.int .i64 (n : Int))).run Try.prog w = .ok (.slice (some ⟨w.heap.size, 0, none⟩) n n) w1 ∧
      (∀ ty, (Builtin.copy_ #[t, t] ty #[.slice (some ⟨w.heap.size, 0, none⟩) n n, .slice a n cap]).run Try.prog w1 = .ok (.int .i64 (n : Int)) w2) ∧
      Below w.heap.size w w2 ∧ Row w2 (.slice (some ⟨w.heap.size, 0, none⟩) n n) n E := by
  obtain ⟨w1, hmk, hb1, hs1, hr1⟩ := mk_room ht hi hb w n hn
  have hsz : (Try.prog.info? e).map (·.size) = some 1 := by
    obtain ⟨i, h1, _, h3, _⟩ := info_parts hi
    rw [h1, Option.map_some, h3]
  have h' := h
  obtain ⟨a', cap', he, hcap, hmax, hcells⟩ := h'
  injection he with q1 _ q3
  subst q1 q3
  by_cases h0 : n = 0
  · subst h0
    refine ⟨w1, w1, hmk, fun ty => run_copy_none w1 t t ty e _ _ _ _ _ _ ht hsz (by simp), hb1, ⟨_, _, rfl, Nat.le_refl _, by unfold maxLen; omega, fun j hj => absurd hj (Nat.not_lt_zero _)⟩⟩
  · obtain ⟨b, off, x0, ha, hbl, _, _⟩ := hcells 0 (by omega)
    subst ha
    have hx : ∀ j, ∃ x, j < n → w.cell? ⟨b, off + j, none⟩ = some x ∧ E x j := fun j => by
      by_cases hj : j < n
      · obtain ⟨b', off', x, he, _, hc, hE⟩ := hcells j hj
        injection he with he
        injection he with e1 e2
        subst e1 e2
        exact ⟨x, fun _ => ⟨hc, hE⟩⟩
      · exact ⟨x0, fun h => absurd h hj⟩
    obtain ⟨X, hX⟩ : ∃ X : Nat → Value, ∀ j, j < n → w.cell? ⟨b, off + j, none⟩ = some (X j) ∧ E (X j) j :=
      ⟨fun j => Classical.choose (hx j), fun j hj => Classical.choose_spec (hx j) hj⟩
    have hlen : ((List.range n).map X).length = n := by simp
    have hget : ∀ j v, ((List.range n).map X)[j]? = some v → j < n ∧ v = X j := fun j v hj => by
      have hjn : j < n := by
        rcases Nat.lt_or_ge j n with h | h
        · exact h
        · rw [List.getElem?_eq_none (by simpa using h)] at hj; cases hj
      refine ⟨hjn, ?_⟩
      rw [List.getElem?_map, List.getElem?_range hjn] at hj
      simpa using hj.symm
    have hcopy := fun ty => run_copy_cells (P := Try.prog) w1 t t ty e w.heap.size 0 n n ⟨b, off, none⟩ n cap ((List.range n).map X) ht hsz (by simp)
      (fun j v hj => by
        obtain ⟨hjn, rfl⟩ := hget j v hj
        rw [Go.WideShapes.add_plain, hb1.cell (p := ⟨b, off + j, none⟩) hbl]
        exact (hX j hjn).1)
      (fun j hj => by
        obtain ⟨u, hu⟩ := hr1.2.1 j (by rw [hlen] at hj; omega)
        rw [Nat.zero_add, hu]; rfl)
      (fun j _ => by rw [Nat.zero_add]; exact hr1.2.2 j)
      (fun u hu => by
        obtain ⟨j, hj, rfl⟩ := List.mem_map.1 hu
        exact hone _ j (hX j (List.mem_range.1 hj)).2)
    refine ⟨w1, w1.setCells w.heap.size 0 ((List.range n).map X), hmk, fun ty => ?_, below_setCells w.heap.size (Nat.le_refl _) _ _ _ _ hb1, ⟨_, _, rfl, Nat.le_refl _, by unfold maxLen; omega, fun j hj => ?_⟩⟩
    · rw [hcopy ty, hlen]
      rfl
    · refine ⟨w.heap.size, 0, X j, rfl, ?_, ?_, (hX j hj).2⟩
      · have := (below_setCells w.heap.size (Nat.le_refl _) ((List.range n).map X) 0 w w1 hb1).size
        have h2 := (below_setCells (B := 0) w.heap.size (Nat.zero_le _) ((List.range n).map X) 0 w1 w1 (Below.refl _ _)).size
        omega
      · have := World.cell?_setCells_in w.heap.size ((List.range n).map X) 0 w1 (fun l hl => by
          obtain ⟨u, hu⟩ := hr1.2.1 l (by rw [hlen] at hl; omega)
          rw [Nat.zero_add, hu]; rfl) j (by rw [hlen]; exact hj)
        rw [Nat.zero_add] at this ⊢
        rw [this]
        simp

theorem info9 : (Try.prog.info? 9).map (fun i => (i.zero, i.size, i.bytes)) = some (some (.string ⟨#[]⟩), 1, 16) := by kernel_rfl
theorem info3 : (Try.prog.info? 3).map (fun i => (i.zero, i.size, i.bytes)) = some (some (.int .i64 0), 1, 8) := by kernel_rfl
theorem info21 : (Try.prog.info? 21).map (fun i => (i.zero, i.size, i.bytes)) = some (some (.int .i32 0), 1, 4) := by kernel_rfl
theorem str_one {f : Nat → ByteArray} : ∀ (x : Value) (j : Nat), (x = .string (f j) ∧ (f j).size ≤ maxLen) → x.oneCell' = true := by
  rintro x j ⟨rfl, _⟩; rfl
theorem int_one {k : IntKind} : ∀ (x : Value) (_ : Nat), (∃ z, x = .int k z) → x.oneCell' = true := by
  rintro x j ⟨z, rfl⟩; rfl

set_option maxHeartbeats 400000 in
theorem placed22_any (p v2 v3 v4 : Value) (a1 : Option Addr) (c1 k n m : Nat) (T E : Nat → ByteArray) (w : World) (ht : TripsAt w p n T) (he : Strs w v4 m E) (hn : n ≤ 4096) (hm : m ≤ 4096) (hk : k ≤ 4096) (hne : ∀ i, i < m → ∀ j, j < n → E i ≠ T j) :
    Calls Try.prog 22 #[p, .slice a1 k c1, v2, v3, v4] w fun e w' => ∃ M D G, e = .returned (.map (some M)) ∧ Below w.heap.size w w' ∧ w.heap.size ≤ M ∧ w'.ownsMap Try.prog 9 RH M m D ∧ Filled D E k m G ∧
      ∀ j, j < m → NaNRow w' (G j) k ∧ w.heap.size ≤ G j ∧ G j ≠ M := by
  have HT : Hid (TripsAt w p n T) := ht
  have HE : Hid (Strs w v4 m E) := he
  have HN : Hid (∀ i, i < m → ∀ j, j < n → E i ≠ T j) := hne
  clear ht he hne
  go_enter Try.func22, Try.ntmps22
  go_wp2_with fail
  refine (placed_any _ _ _ _ a1 c1 k n m T E _ HT.out HE.out hn hm hk HN.out).mono ?_
  rintro e w1 ⟨M, D, G, rfl, r1, r2, r3, r4, r5⟩
  have HR : Hid (Below w.heap.size w w1 ∧ w.heap.size ≤ M ∧ w1.ownsMap Try.prog 9 RH M m D ∧ Filled D E k m G ∧ ∀ j, j < m → NaNRow w1 (G j) k ∧ w.heap.size ≤ G j ∧ G j ≠ M) := ⟨r1, r2, r3, r4, r5⟩
  clear r1 r2 r3 r4 r5 HT HE HN
  go_wp2
  go_ret
  exact ⟨M, D, G, rfl, HR.out⟩
end Go.Proofs.Qxb6608650a
