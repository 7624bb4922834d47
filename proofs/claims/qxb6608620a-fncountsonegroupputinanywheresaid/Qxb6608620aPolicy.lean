/-
  A policy built and counted.
-/
import Derived.Test.Qxb6608620aGroups
import Derived.Deep.QuietTactic
import Derived.BigQuiet
namespace Go.Proofs.Qxb6608620a
open Go.RowKit Go.Maps Go.WideMaps

set_option maxHeartbeats 400000 in
theorem newPolicy_any (k p a b c : Value) (w : World) (hk : ∃ x n m, k = .slice x n m) (hp : ∃ x, p = .map x) (ha : ∃ x n m, a = .slice x n m) (hb : ∃ x n m, b = .slice x n m) (hc : ∃ x n m, c = .slice x n m) :
    Calls Try.prog 14 #[k, p, a, b, c] w fun e w' => e = .returned (.pointer (some ⟨w.heap.size + 1, 0, none⟩)) ∧ Below w.heap.size w w' ∧ w'.heap.size = w.heap.size + 2 ∧
      w'.cell? ⟨w.heap.size + 1, 1, none⟩ = some (.pointer (some ⟨w.heap.size, 0, none⟩)) ∧ w'.cell? ⟨w.heap.size + 1, 3, none⟩ = some c ∧ w'.cell? ⟨w.heap.size, 0, none⟩ = some k := by
  obtain ⟨k1, k2, k3, rfl⟩ := hk
  obtain ⟨p1, rfl⟩ := hp
  obtain ⟨a1, a2, a3, rfl⟩ := ha
  obtain ⟨b1, b2, b3, rfl⟩ := hb
  obtain ⟨c1, c2, c3, rfl⟩ := hc
  go_enter Try.func14, Try.ntmps14
  go_wp2
  go_ret
  refine ⟨rfl, ((Below.refl _ _).alloc (Nat.le_refl _) _).alloc (by simp) _, by simp, ?_, ?_, ?_⟩ <;> simp [go_sem]

theorem mk46 (w : World) (n : Int) : (Instr.makeMap 46 (some (.int .i64 n))).run Try.prog w = .ok (.map (some w.heap.size)) (w.alloc (.map #[] 0)) := by
  simp [Instr.makeMap, run_underlying Try.underlying46, asInt, asIntOf]
theorem info50 : (Try.prog.info? 50).map (fun i => (i.zero, i.size, i.bytes)) = some (some (.agg #[.string ⟨#[]⟩, .int .i64 0, .int .i64 0]), 3, 32) := by kernel_rfl
theorem info51 : (Try.prog.info? 51).map (fun i => (i.zero, i.size, i.bytes)) = some (some (.slice none 0 0), 1, 24) := by kernel_rfl
theorem info23 : (Try.prog.info? 23).map (fun i => (i.zero, i.size, i.bytes)) = some (some (.slice none 0 0), 1, 24) := by kernel_rfl

theorem neq51 (W : World) : (binOp .neq 51 (.slice none 0 0) (.slice none 0 0)).run Try.prog W = .ok (.bool false) W := run_neq_slice_nil_any W 51 3 none 0 0 0 0 Try.underlying51
theorem neq23 (W : World) : (binOp .neq 23 (.slice none 0 0) (.slice none 0 0)).run Try.prog W = .ok (.bool false) W := run_neq_slice_nil_any W 23 9 none 0 0 0 0 Try.underlying23

/-- a row of n nil slices -/
def Nils (w : World) (b n : Nat) : Prop := b < w.heap.size ∧ ∀ j, j < n → w.cell? ⟨b, j, none⟩ = some (.slice none 0 0)
theorem Nils.below {w w' : World} {b n : Nat} (h : Nils w b n) (hb : Below w.heap.size w w') : Nils w' b n :=
  ⟨Nat.lt_of_lt_of_le h.1 hb.size, fun j hj => by rw [hb.cell (p := ⟨b, j, none⟩) h.1]; exact h.2 j hj⟩

/-- a new row of n elements, the world behind it unnamed -/
theorem mk_row' {t e : TypeId} {z : Value} {size bytes : Nat} (ht : Try.prog.underlying t = some (.slice e)) (hi : (Try.prog.info? e).map (fun i => (i.zero, i.size, i.bytes)) = some (some z, size, bytes)) (hb : bytes ≤ 100) (w : World) (n : Nat) (hn : n ≤ 1048576) :
    ∃ w', (Instr.makeSlice t (.int .i64 (n : Int)) (.int .i64 (n : Int))).run Try.prog w = .ok (.slice (some ⟨w.heap.size, 0, none⟩) n n) w' ∧ Below w.heap.size w w' ∧ w'.heap.size = w.heap.size + 1 := by
  obtain ⟨cs, _, hr⟩ := mk_row ht hi hb w n hn
  exact ⟨_, hr, (Below.refl _ _).alloc (Nat.le_refl _) _, by simp⟩

set_option maxHeartbeats 1000000 in
theorem policyOf_any (v gv : Value) (n b1 b2 : Nat) (w : World) (h : Strs w v n) (hn : n ≤ 1048576) (hp : Nils w b1 n) (hq : Nils w b2 n) (hgv : ∃ x n m, gv = .slice x n m) :
    Calls Try.prog 12 #[v, .slice (some ⟨b1, 0, none⟩) n n, .slice (some ⟨b2, 0, none⟩) n n, gv] w fun e w' =>
      ∃ bp bt a cap, e = .returned (.pointer (some ⟨bp, 0, none⟩)) ∧ Below w.heap.size w w' ∧ w.heap.size ≤ bp ∧ bp < w'.heap.size ∧ w.heap.size ≤ bt ∧ bt < w'.heap.size ∧
        w'.cell? ⟨bp, 1, none⟩ = some (.pointer (some ⟨bt, 0, none⟩)) ∧ w'.cell? ⟨bp, 3, none⟩ = some gv ∧ w'.cell? ⟨bt, 0, none⟩ = some (.slice a n cap) := by
  obtain ⟨a, cap, rfl, h1, h2, h3⟩ := h
  have HV : Hid (∀ j, j < n → ∃ b off x, a = some ⟨b, off, none⟩ ∧ b < w.heap.size ∧ w.cell? ⟨b, off + j, none⟩ = some x ∧ StrE x j) := h3
  clear h3
  obtain ⟨g1, g2, g3, rfl⟩ := hgv
  have h4 : cap ≤ 9223372036854775807 := h2
  obtain ⟨cs, hcs, hmk⟩ := mk_row Try.underlying45 info50 (by omega) w n hn
  have hroom := Room.made w cs 50
  rw [hcs] at hroom
  clear hcs
  have hmm := mk46
  have HP : Hid (Nils w b1 n) := hp
  have HQ : Hid (Nils w b2 n) := hq
  clear hp hq
  go_enter Try.func12, Try.ntmps12
  go_wp2
  go_loopg [11] n (fun g i wr => ∃ k : Nat, k ≤ n ∧ n ≤ k + g ∧ i = .int .i64 k ∧ Below w.heap.size w wr ∧ Room wr w.heap.size (n * 3) ∧ ∃ D : DataW Unit, wr.ownsMap Try.prog 9 (plainElem Try.prog 3) (w.heap.size + 1) k D)
  case atStart =>
    refine ⟨0, Nat.zero_le _, by omega, rfl, ((Below.refl _ _).alloc (Nat.le_refl _) _).alloc (by simp) _, ?_, ?_⟩
    · exact hroom.kept (by simp) (by exact Below.heap_alloc _ _ _ (by simp))
    · have := World.ownsMap_made (H := Unit) (w.alloc (.cells cs 50)) Try.prog 9 (plainElem Try.prog 3)
      simp only [World.size_alloc] at this
      exact ⟨_, this⟩
  case round =>
    obtain ⟨k, hk, hg, rfl, hbr, hrm, D, hown⟩ := hrel
    clear hmk hroom
    by_cases hlt : k < n
    · obtain ⟨b, off, x, rfl, hb, hc, s, rfl, hs⟩ := HV.out k hlt
      clear HV
      have hc' : wr.cell? ⟨b, off + k, none⟩ = some (.string s) := by rw [hbr.cell (p := ⟨b, off + k, none⟩) hb]; exact hc
      obtain ⟨v0, e0⟩ := hrm.2.1 (k * 3) (by omega)
      obtain ⟨v1, e1⟩ := hrm.2.1 (k * 3 + 1) (by omega)
      obtain ⟨v2, e2⟩ := hrm.2.1 (k * 3 + 2) (by omega)
      have f0 := hrm.2.2
      have HRm : Hid (Room wr w.heap.size (n * 3)) := hrm
      have hne : w.heap.size + 1 ≠ w.heap.size := by omega
      have hown3 := ((hown.setCell (a := ⟨w.heap.size, k * 3, none⟩) hne (.string s)).setCell (a := ⟨w.heap.size, k * 3 + 1, none⟩) hne (.int .i64 ((k : Int) + 1))).setCell (a := ⟨w.heap.size, k * 3 + 2, none⟩) hne (.int .i64 1)
      obtain ⟨w1, hrun2, hown1, hgrow1⟩ := hown3.update law9 Try.underlying46 (show k < maxLen by unfold maxLen; omega) (keyOf_string_mk Try.underlying9 hs) (plainElem_int Try.underlying3 (WalkArith.wf_i64 (n := (k : Int)) (by omega)))
      clear hc hrm hown3 hown
      go_wp2
      go_roundg (n - (k + 1))
      case rel =>
        have hB : Below w.heap.size w (((wr.setCell ⟨w.heap.size, k * 3, none⟩ (.string s)).setCell ⟨w.heap.size, k * 3 + 1, none⟩ (.int .i64 ((k : Int) + 1))).setCell ⟨w.heap.size, k * 3 + 2, none⟩ (.int .i64 1)) :=
          ((hbr.setCell (Nat.le_refl _) _).setCell (Nat.le_refl _) _).setCell (Nat.le_refl _) _
        have hR := ((HRm.out.setCell ⟨w.heap.size, k * 3, none⟩ (.string s)).setCell ⟨w.heap.size, k * 3 + 1, none⟩ (.int .i64 ((k : Int) + 1))).setCell ⟨w.heap.size, k * 3 + 2, none⟩ (.int .i64 1)
        exact ⟨k + 1, by omega, by omega, by go_num, hB.grown hgrow1 hB.size (fun j hj => by cases hj; omega), hR.kept hgrow1.size (hgrow1.block _ hR.1 (by simp)), _, hown1⟩
      case measure => omega
    · clear HV hown
      obtain ⟨wa, hma, hba, hsa⟩ := mk_row' Try.underlying35 info51 (by omega) wr n hn
      obtain ⟨wb, hmb, hbb, hsb⟩ := mk_row' Try.underlying22 info23 (by omega) wa n hn
      have hB1 : Below w.heap.size w wa := hbr.trans (hba.mono hbr.size)
      have hB2 : Below w.heap.size w wb := hB1.trans (hbb.mono hB1.size)
      have HP1 : Hid (Nils wa b1 n) := HP.out.below hB1
      have HQ1 : Hid (Nils wb b2 n) := HQ.out.below hB2
      have hn51 := neq51
      have hn23 := neq23
      have hbt : w.heap.size < wr.heap.size := hrm.1
      clear HP HQ hrm hsa hsb
      go_wp2
      go_loopg [13] n (fun g i w2 => w2 = wa ∧ ∃ k : Nat, k ≤ n ∧ n ≤ k + g ∧ i = .int .i64 k)
      case atStart => exact ⟨rfl, 0, Nat.zero_le _, by omega, rfl⟩
      case round =>
        obtain ⟨rfl, k2, hk2, hg2, rfl⟩ := hrel
        by_cases hlt2 : k2 < n
        · have hc := HP1.out.2 k2 hlt2
          go_wp2
          go_roundg (n - (k2 + 1))
          case rel => exact ⟨rfl, k2 + 1, by omega, by omega, by go_num⟩
          case measure => omega
        · clear HP1
          go_wp2
          go_loopg [16] n (fun g i w2 => w2 = wb ∧ ∃ k : Nat, k ≤ n ∧ n ≤ k + g ∧ i = .int .i64 k)
          case atStart => exact ⟨rfl, 0, Nat.zero_le _, by omega, rfl⟩
          case round =>
            obtain ⟨rfl, k3, hk3, hg3, rfl⟩ := hrel
            by_cases hlt3 : k3 < n
            · have hc := HQ1.out.2 k3 hlt3
              go_wp2
              go_roundg (n - (k3 + 1))
              case rel => exact ⟨rfl, k3 + 1, by omega, by omega, by go_num⟩
              case measure => omega
            · clear HQ1
              go_wp2_with fail
              refine (newPolicy_any _ _ _ _ _ _ ⟨_, _, _, rfl⟩ ⟨_, rfl⟩ ⟨_, _, _, rfl⟩ ⟨_, _, _, rfl⟩ ⟨_, _, _, rfl⟩).mono ?_
              rintro e w4 ⟨rfl, hb4, hs4, q1, q2, q3⟩
              go_wp2
              go_ret
              have hsz := hB2.size
              exact ⟨_, _, _, _, rfl, hB2.trans (hb4.mono hsz), by omega, by omega, by omega, by omega, q1, q2, q3⟩

/-- The policy that p leads to: G groups, the i-th of L i permissions; K templates. -/
def PolicyAt (w : World) (p : Value) (G : Nat) (L : Nat → Nat) (K : Nat) : Prop :=
  ∃ bp bt bg a cap capg, p = .pointer (some ⟨bp, 0, none⟩) ∧ bp < w.heap.size ∧ bt < w.heap.size ∧ bg < w.heap.size ∧
    w.cell? ⟨bp, 1, none⟩ = some (.pointer (some ⟨bt, 0, none⟩)) ∧ w.cell? ⟨bp, 3, none⟩ = some (.slice (some ⟨bg, 0, none⟩) G capg) ∧ w.cell? ⟨bt, 0, none⟩ = some (.slice a K cap) ∧
    ∀ i, i < G → GCell w bg i (L i)
theorem PolicyAt.below {w w' : World} {p : Value} {G : Nat} {L : Nat → Nat} {K : Nat} (h : PolicyAt w p G L K) (hb : Below w.heap.size w w') : PolicyAt w' p G L K := by
  obtain ⟨bp, bt, bg, a, cap, capg, hp, l1, l2, l3, c1, c2, c3, hc⟩ := h
  have hs := hb.size
  refine ⟨bp, bt, bg, a, cap, capg, hp, by omega, by omega, by omega, ?_, ?_, ?_, fun i hi => ?_⟩
  · rw [hb.cell (p := ⟨bp, 1, none⟩) l1]; exact c1
  · rw [hb.cell (p := ⟨bp, 3, none⟩) l1]; exact c2
  · rw [hb.cell (p := ⟨bt, 0, none⟩) l2]; exact c3
  · exact (hc i hi).below hb l3

set_option maxHeartbeats 1000000 in
theorem counts_any (p : Value) (G : Nat) (L : Nat → Nat) (K : Nat) (w : World) (h : PolicyAt w p G L K) (hG : G ≤ 1048577) (hs : sumTo L G ≤ 1048576) :
    Calls Try.prog 10 #[p] w fun e w' => e = .returned (.tuple #[.int .i64 G, .int .i64 (sumTo L G), .int .i64 K]) ∧ Below w.heap.size w w' := by
  obtain ⟨bp, bt, bg, a, cap, capg, rfl, l1, l2, l3, c1, c2, c3, hc⟩ := h
  have HC : Hid (∀ i, i < G → GCell w bg i (L i)) := hc
  clear hc
  go_enter Try.func10, Try.ntmps10
  go_wp2
  go_loopg [3, 6, 12] G (fun g s _ i wr => ∃ k : Nat, k ≤ G ∧ G ≤ k + g ∧ i = .int .i64 k ∧ s = .int .i64 (sumTo L k) ∧ Below w.heap.size w wr)
  case atStart => exact ⟨0, Nat.zero_le _, by omega, rfl, rfl, Below.refl _ _⟩
  case round =>
    obtain ⟨k, hk, hg, rfl, rfl, hbr⟩ := hrel
    have hm := sumTo_mono L hk
    by_cases hlt : k < G
    · obtain ⟨a', cap', e0, e1, e2, e3⟩ := (HC.out k hlt).below hbr l3
      clear HC
      have hm2 := sumTo_mono L (show k + 1 ≤ G from hlt)
      rw [sumTo_succ] at hm2
      go_wp2
      go_roundg (G - (k + 1))
      case rel => exact ⟨k + 1, by omega, by omega, by go_num, by rw [sumTo_succ]; go_num, hbr.alloc hbr.size _⟩
      case measure => omega
    · clear HC
      obtain rfl : k = G := by omega
      have c1' : wr.cell? ⟨bp, 1, none⟩ = some (.pointer (some ⟨bt, 0, none⟩)) := by rw [hbr.cell (p := ⟨bp, 1, none⟩) l1]; exact c1
      have c2' : wr.cell? ⟨bp, 3, none⟩ = some (.slice (some ⟨bg, 0, none⟩) k capg) := by rw [hbr.cell (p := ⟨bp, 3, none⟩) l1]; exact c2
      have c3' : wr.cell? ⟨bt, 0, none⟩ = some (.slice a K cap) := by rw [hbr.cell (p := ⟨bt, 0, none⟩) l2]; exact c3
      clear c1 c2 c3
      go_wp2
      go_quiet (fail)
      go_wp2
      go_ret3
      exact ⟨rfl, below_drewN hbr _⟩
end Go.Proofs.Qxb6608620a
