/-
  Groups made of rows.
-/
import Derived.Test.Qxb6608620aKeys
namespace Go.Proofs.Qxb6608620a
open Go.RowKit

/-- Block b has sz cells that can be written. -/
def Room (w : World) (b sz : Nat) : Prop :=
  b < w.heap.size ∧ (∀ j, j < sz → ∃ v, w.cell? ⟨b, j, none⟩ = some v) ∧ ∀ j, w.frozen? ⟨b, j, none⟩ = false

theorem Room.made (w : World) (cs : Array Value) (e : TypeId) : Room (w.alloc (.cells cs e)) w.heap.size cs.size := by
  have e := (MapKept.heap_alloc w (.cells cs e)).1
  refine ⟨by simp, fun j hj => ⟨cs[j], ?_⟩, fun j => ?_⟩
  · unfold World.cell?
    simp only [e]
    simp [hj]
  · unfold World.frozen?
    simp only [e]
    simp
theorem Room.kept {w w' : World} {b sz : Nat} (h : Room w b sz) (hs : w.heap.size ≤ w'.heap.size) (hb : w'.heap[b]? = w.heap[b]?) : Room w' b sz := by
  obtain ⟨h1, h2, h3⟩ := h
  exact ⟨Nat.lt_of_lt_of_le h1 hs, fun j hj => by rw [World.cell?_of_block (w := w) (a := ⟨b, j, none⟩) hb]; exact h2 j hj, fun j => by rw [World.frozen?_of_block (w := w) (a := ⟨b, j, none⟩) hb]; exact h3 j⟩
theorem Room.below {w w' : World} {b sz B : Nat} (h : Room w b sz) (hb : Below B w w') (hlt : b < B) : Room w' b sz := h.kept hb.size (hb.block b hlt)
theorem Room.setCell {w : World} {b sz : Nat} (h : Room w b sz) (p : Addr) (u : Value) : Room (w.setCell p u) b sz := by
  obtain ⟨h1, h2, h3⟩ := h
  refine ⟨by simpa [World.setCell] using h1, fun j hj => ?_, fun j => by rw [World.frozen?_setCell]; exact h3 j⟩
  obtain ⟨v, hv⟩ := h2 j hj
  exact cell?_setCell_some hv

theorem info44 : (Try.prog.info? 44).map (fun i => (i.zero, i.size, i.bytes)) = some (some (.agg #[.string ⟨#[]⟩, .string ⟨#[]⟩, .string ⟨#[]⟩, .slice none 0 0]), 4, 72) := by kernel_rfl
theorem info54 : (Try.prog.info? 54).map (fun i => (i.zero, i.size, i.bytes)) = some (some (.agg #[.string ⟨#[]⟩, .string ⟨#[]⟩, .string ⟨#[]⟩]), 3, 48) := by kernel_rfl

/-- a new row of n elements -/
theorem mk_row {t e : TypeId} {z : Value} {size bytes : Nat} (ht : Try.prog.underlying t = some (.slice e)) (hi : (Try.prog.info? e).map (fun i => (i.zero, i.size, i.bytes)) = some (some z, size, bytes)) (hb : bytes ≤ 100) (w : World) (n : Nat) (hn : n ≤ 1048576) :
    ∃ cs : Array Value, cs.size = n * size ∧ (Instr.makeSlice t (.int .i64 (n : Int)) (.int .i64 (n : Int))).run Try.prog w = .ok (.slice (some ⟨w.heap.size, 0, none⟩) n n) (w.alloc (.cells cs e)) := by
  obtain ⟨i, h1, h2, h3, h4⟩ := info_parts hi
  refine ⟨madeCells z.cells (n * i.size), by rw [size_madeCells, h3], ?_⟩
  have := run_make (P := Try.prog) w t e i z ht h1 h2 .i64 .i64 n n (by omega) (by omega) (by
    rw [h4]
    have : bytes * n ≤ 100 * 1048576 := Nat.mul_le_mul hb hn
    have h' : ((bytes * n : Nat) : Int) ≤ 281474976710656 := by omega
    rwa [Int.natCast_mul] at h') (by omega)
  simpa using this

theorem cell_set_ne {w : World} {b o o' : Nat} {u : Value} (h : o ≠ o') : (w.setCell ⟨b, o, none⟩ u).cell? ⟨b, o', none⟩ = w.cell? ⟨b, o', none⟩ :=
  World.cell?_setCell_other _ _ _ _ (by intro e; injection e with _ e; exact h e)
theorem cells4_other {w : World} {b k j : Nat} {x0 x1 x2 x3 : Value} (h : j ≠ k ∧ j ≠ k + 1 ∧ j ≠ k + 2 ∧ j ≠ k + 3) :
    ((((w.setCell ⟨b, k, none⟩ x0).setCell ⟨b, k + 1, none⟩ x1).setCell ⟨b, k + 2, none⟩ x2).setCell ⟨b, k + 3, none⟩ x3).cell? ⟨b, j, none⟩ = w.cell? ⟨b, j, none⟩ := by
  rw [cell_set_ne (by omega), cell_set_ne (by omega), cell_set_ne (by omega), cell_set_ne (by omega)]
/-- The i-th group of block b: no names, l permissions. -/
def GCell (w : World) (b i l : Nat) : Prop :=
  ∃ a cap, w.cell? ⟨b, i * 4, none⟩ = some (.string ⟨#[]⟩) ∧ w.cell? ⟨b, i * 4 + 1, none⟩ = some (.string ⟨#[]⟩) ∧ w.cell? ⟨b, i * 4 + 2, none⟩ = some (.string ⟨#[]⟩) ∧ w.cell? ⟨b, i * 4 + 3, none⟩ = some (.slice a l cap)
theorem GCell.below {w w' : World} {b i l B : Nat} (h : GCell w b i l) (hb : Below B w w') (hlt : b < B) : GCell w' b i l := by
  obtain ⟨a, cap, h0, h1, h2, h3⟩ := h
  refine ⟨a, cap, ?_, ?_, ?_, ?_⟩
  · rw [hb.cell (p := ⟨b, i * 4, none⟩) hlt]; exact h0
  · rw [hb.cell (p := ⟨b, i * 4 + 1, none⟩) hlt]; exact h1
  · rw [hb.cell (p := ⟨b, i * 4 + 2, none⟩) hlt]; exact h2
  · rw [hb.cell (p := ⟨b, i * 4 + 3, none⟩) hlt]; exact h3
theorem GCell.same {w : World} {b k n cap : Nat} {a : Option Addr} {v0 v1 v2 v3 : Value} (h0 : w.cell? ⟨b, k * 4, none⟩ = some v0) (h1 : w.cell? ⟨b, k * 4 + 1, none⟩ = some v1) (h2 : w.cell? ⟨b, k * 4 + 2, none⟩ = some v2) (h3 : w.cell? ⟨b, k * 4 + 3, none⟩ = some v3) :
    GCell ((((w.setCell ⟨b, k * 4, none⟩ (.string ⟨#[]⟩)).setCell ⟨b, k * 4 + 1, none⟩ (.string ⟨#[]⟩)).setCell ⟨b, k * 4 + 2, none⟩ (.string ⟨#[]⟩)).setCell ⟨b, k * 4 + 3, none⟩ (.slice a n cap)) b k n := by
  refine ⟨a, cap, ?_, ?_, ?_, ?_⟩
  · rw [cell_set_ne (by omega), cell_set_ne (by omega), cell_set_ne (by omega)]
    exact World.cell?_setCell_same _ _ _ h0
  · rw [cell_set_ne (by omega), cell_set_ne (by omega)]
    exact World.cell?_setCell_same _ _ _ (u := v1) (by rw [cell_set_ne (by omega)]; exact h1)
  · rw [cell_set_ne (by omega)]
    exact World.cell?_setCell_same _ _ _ (u := v2) (by rw [cell_set_ne (by omega), cell_set_ne (by omega)]; exact h2)
  · exact World.cell?_setCell_same _ _ _ (u := v3) (by rw [cell_set_ne (by omega), cell_set_ne (by omega), cell_set_ne (by omega)]; exact h3)
theorem GCell.other {w : World} {b k i l : Nat} {x0 x1 x2 x3 : Value} (h : GCell w b i l) (hne : i ≠ k) :
    GCell ((((w.setCell ⟨b, k * 4, none⟩ x0).setCell ⟨b, k * 4 + 1, none⟩ x1).setCell ⟨b, k * 4 + 2, none⟩ x2).setCell ⟨b, k * 4 + 3, none⟩ x3) b i l := by
  obtain ⟨a, cap, h0, h1, h2, h3⟩ := h
  refine ⟨a, cap, ?_, ?_, ?_, ?_⟩ <;> (rw [cells4_other (by omega)]; assumption)

set_option maxHeartbeats 1000000 in
theorem groupsOf_any (v : Value) (n : Nat) (L : Nat → Nat) (w : World) (h : Rows2 w v n L) (hn : n ≤ 1048576) (hL : ∀ i, i < n → L i ≤ 1048576) :
    Calls Try.prog 13 #[v] w fun e w' => e = .returned (.slice (some ⟨w.heap.size, 0, none⟩) n n) ∧ Below w.heap.size w w' ∧ w.heap.size < w'.heap.size ∧
      ∀ i, i < n → GCell w' w.heap.size i (L i) := by
  obtain ⟨a, cap, rfl, h1, h2, h3⟩ := h
  have HV : Hid (∀ j, j < n → ∃ b off x, a = some ⟨b, off, none⟩ ∧ b < w.heap.size ∧ w.cell? ⟨b, off + j, none⟩ = some x ∧ Strs w x (L j)) := h3
  clear h3
  obtain ⟨cs, hcs, hmk⟩ := mk_row Try.underlying36 info44 (by omega) w n hn
  have h4 : cap ≤ 9223372036854775807 := h2
  have hroom := Room.made w cs 44
  rw [hcs] at hroom
  clear hcs
  go_enter Try.func13, Try.ntmps13
  go_wp2
  go_loopg [4, 5, 6] n (fun g i _ _ wr => ∃ k : Nat, k ≤ n ∧ n ≤ k + g ∧ i = .int .i64 k ∧ Below w.heap.size w wr ∧ Room wr w.heap.size (n * 4) ∧ ∀ i, i < k → GCell wr w.heap.size i (L i))
  case atStart => exact ⟨0, Nat.zero_le _, by omega, rfl, (Below.refl _ _).alloc (Nat.le_refl _) _, hroom, fun i hi => absurd hi (Nat.not_lt_zero _)⟩
  case round =>
    obtain ⟨k, hk, hg, rfl, hbr, hrm, hcells⟩ := hrel
    clear hmk hroom
    by_cases hlt : k < n
    · obtain ⟨b, off, x, rfl, hb, hc, hx⟩ := HV.out k hlt
      clear HV
      have hx' := hx.below hbr
      obtain ⟨a2, cap2, rfl, g1, g2, g3⟩ := hx'
      clear hx
      have g4 : cap2 ≤ 9223372036854775807 := g2
      have HG : Hid (∀ j, j < L k → ∃ b off x, a2 = some ⟨b, off, none⟩ ∧ b < wr.heap.size ∧ wr.cell? ⟨b, off + j, none⟩ = some x ∧ StrE x j) := g3
      clear g3
      have HC : Hid (∀ i, i < k → GCell wr w.heap.size i (L i)) := hcells
      clear hcells
      have hc' : wr.cell? ⟨b, off + k, none⟩ = some (.slice a2 (L k) cap2) := by rw [hbr.cell (p := ⟨b, off + k, none⟩) hb]; exact hc
      clear hc
      obtain ⟨cs2, hcs2, hmk2⟩ := mk_row Try.underlying42 info54 (by omega) wr (L k) (hL k hlt)
      have hroom2 := Room.made wr cs2 54
      rw [hcs2] at hroom2
      clear hcs2
      have HR : Hid (Room wr w.heap.size (n * 4)) := hrm
      clear hrm
      obtain ⟨wo, rfl⟩ : ∃ wo : World, wo = wr := ⟨_, rfl⟩
      obtain ⟨g0, rfl⟩ : ∃ g0 : Nat, g0 = gk := ⟨_, rfl⟩
      go_wp2
      go_loopg [6] (L k) (fun g i wi => ∃ k2 : Nat, k2 ≤ L k ∧ L k ≤ k2 + g ∧ i = .int .i64 k2 ∧ Below wo.heap.size wo wi ∧ Room wi wo.heap.size (L k * 3))
      case atStart => exact ⟨0, Nat.zero_le _, by omega, rfl, (Below.refl _ _).alloc (Nat.le_refl _) _, hroom2⟩
      case round =>
        obtain ⟨k2, hk2, hg2, rfl, hbi, hri⟩ := hrel
        clear hmk2 hroom2
        have hbo : b < wo.heap.size := Nat.lt_of_lt_of_le hb hbr.size
        have hc1 : wr.cell? ⟨b, off + k, none⟩ = some (.slice a2 (L k) cap2) := by rw [hbi.cell (p := ⟨b, off + k, none⟩) hbo]; exact hc'
        clear hc'
        by_cases hlt2 : k2 < L k
        · obtain ⟨b2, off2, x, rfl, hb2, hc2, s, rfl, hs⟩ := HG.out k2 hlt2
          clear HG
          have hc3 : wr.cell? ⟨b2, off2 + k2, none⟩ = some (.string s) := by rw [hbi.cell (p := ⟨b2, off2 + k2, none⟩) hb2]; exact hc2
          clear hc2
          obtain ⟨v0, e0⟩ := hri.2.1 (k2 * 3) (by omega)
          obtain ⟨v1, e1⟩ := hri.2.1 (k2 * 3 + 1) (by omega)
          obtain ⟨v2, e2⟩ := hri.2.1 (k2 * 3 + 2) (by omega)
          have f0 := hri.2.2
          have HRi : Hid (Room wr wo.heap.size (L k * 3)) := hri
          clear hri
          go_wp2
          go_roundg (L k - (k2 + 1))
          case rel => exact ⟨k2 + 1, by omega, by omega, by go_num, ((hbi.setCell (Nat.le_refl _) _).setCell (Nat.le_refl _) _).setCell (Nat.le_refl _) _, ((HRi.out.setCell _ _).setCell _ _).setCell _ _⟩
          case measure => omega
        · clear HG
          have hrg := HR.out.below hbi (by have := HR.out.1; omega)
          obtain ⟨v0, e0⟩ := hrg.2.1 (k * 4) (by omega)
          obtain ⟨v1, e1⟩ := hrg.2.1 (k * 4 + 1) (by omega)
          obtain ⟨v2, e2⟩ := hrg.2.1 (k * 4 + 2) (by omega)
          obtain ⟨v3, e3⟩ := hrg.2.1 (k * 4 + 3) (by omega)
          have f0 := hrg.2.2
          have HRg : Hid (Room wr w.heap.size (n * 4)) := hrg
          have hlo := HR.out.1
          clear hrg hri HR
          go_wp2
          go_roundg (n - (k + 1))
          case rel =>
            refine ⟨k + 1, by omega, by omega, by go_num, ?_, (((HRg.out.setCell _ _).setCell _ _).setCell _ _).setCell _ _, ?_⟩
            · exact ((((hbr.trans (hbi.mono hbr.size)).setCell (Nat.le_refl _) _).setCell (Nat.le_refl _) _).setCell (Nat.le_refl _) _).setCell (Nat.le_refl _) _
            · intro i hi
              by_cases hik : i = k
              · subst hik
                exact GCell.same e0 e1 e2 e3
              · exact ((HC.out i (by omega)).below hbi hlo).other hik
          case measure => omega
    · clear HV
      go_wp2
      go_ret
      have hkn : n = k := by omega
      exact ⟨rfl, hbr, hrm.1, fun i hi => hcells i (by omega)⟩
end Go.Proofs.Qxb6608620a
