/-
  The small functions on the road.
-/
import Derived.Test.Qxb6608650aPlain
namespace Go.Proofs.Qxb6608650a
open Go.RowKit

theorem info66 : (Try.prog.info? 66).map (fun i => (i.zero.isSome, i.size, i.bytes)) = some (true, 22, 264) := by kernel_rfl
theorem info66' : ∃ z, (Try.prog.info? 66).map (fun i => (i.zero, i.size, i.bytes)) = some (some z, 22, 264) := by
  obtain ⟨i, hi, hz⟩ := Option.map_eq_some_iff.1 info66
  simp only [Prod.mk.injEq] at hz
  obtain ⟨z, hz1⟩ := Option.isSome_iff_exists.1 hz.1
  exact ⟨z, by rw [hi, Option.map_some, hz1, hz.2.1, hz.2.2]⟩
theorem info76 : (Try.prog.info? 76).map (fun i => (i.zero, i.size, i.bytes)) = some (some (.pointer none), 1, 8) := by kernel_rfl
theorem info50 : (Try.prog.info? 50).map (fun i => (i.zero, i.size, i.bytes)) = some (some (.slice none 0 0), 1, 24) := by kernel_rfl
theorem info52 : (Try.prog.info? 52).map (fun i => (i.zero, i.size, i.bytes)) = some (some (.float .f64 0), 1, 8) := by kernel_rfl

/-- The trips that p leads to: n nodes, the j-th named T j; nothing else. -/
def TripsAt (w : World) (p : Value) (n : Nat) (T : Nat → ByteArray) : Prop :=
  ∃ bp bn, p = .pointer (some ⟨bp, 0, none⟩) ∧ bp < w.heap.size ∧ bn < w.heap.size ∧ w.cell? ⟨bp, 0, none⟩ = some (.slice (some ⟨bn, 0, none⟩) n n) ∧
    w.cell? ⟨bp, 1, none⟩ = some .nilIface ∧ w.cell? ⟨bp, 4, none⟩ = some (.slice none 0 0) ∧ ∀ j, j < n → w.cell? ⟨bn, j * 22, none⟩ = some (.string (T j))
theorem TripsAt.below {w w' : World} {p : Value} {n : Nat} {T : Nat → ByteArray} (h : TripsAt w p n T) (hb : Below w.heap.size w w') : TripsAt w' p n T := by
  obtain ⟨bp, bn, hp, l1, l2, c0, c1, c4, hc⟩ := h
  have hs := hb.size
  refine ⟨bp, bn, hp, by omega, by omega, ?_, ?_, ?_, fun j hj => ?_⟩
  · rw [hb.cell (p := ⟨bp, 0, none⟩) l1]; exact c0
  · rw [hb.cell (p := ⟨bp, 1, none⟩) l1]; exact c1
  · rw [hb.cell (p := ⟨bp, 4, none⟩) l1]; exact c4
  · rw [hb.cell (p := ⟨bn, j * 22, none⟩) l2]; exact hc j hj

set_option maxHeartbeats 1000000 in
theorem newTrips_any (v : Value) (n : Nat) (T : Nat → ByteArray) (w : World) (h : Strs w v n T) (hn : n ≤ 4096) :
    Calls Try.prog 20 #[v] w fun e w' => ∃ p, e = .returned p ∧ TripsAt w' p n T ∧ Below w.heap.size w w' := by
  obtain ⟨a, cap, rfl, h1, h2, h3⟩ := h
  have HV : Hid (∀ j, j < n → ∃ b off x, a = some ⟨b, off, none⟩ ∧ b < w.heap.size ∧ w.cell? ⟨b, off + j, none⟩ = some x ∧ x = .string (T j) ∧ (T j).size ≤ maxLen) := h3
  clear h3
  obtain ⟨z, hz⟩ := info66'
  obtain ⟨w1, hmk, hb1, hs1, hr1⟩ := mk_room Try.underlying57 hz (by omega) w n (by omega)
  have HR1 : Hid (Room w1 w.heap.size (n * 22)) := hr1
  clear hz hr1 hs1
  go_enter Try.func20, Try.ntmps20
  go_wp2
  clear hmk
  go_loopg [4, 10] n (fun g _ i wr => ∃ j : Nat, j ≤ n ∧ n ≤ j + g ∧ i = .int .i64 j ∧ Below w.heap.size w wr ∧ Room wr w.heap.size (n * 22) ∧ ∀ l, l < j → wr.cell? ⟨w.heap.size, l * 22, none⟩ = some (.string (T l)))
  case atStart => exact ⟨0, Nat.zero_le _, by omega, rfl, hb1, HR1.out, fun l hl => absurd hl (Nat.not_lt_zero _)⟩
  case round =>
    obtain ⟨j, hj, hg, rfl, hbr, hrm, hcs⟩ := hrel
    clear HR1 hb1
    have HC : Hid (∀ l, l < j → wr.cell? ⟨w.heap.size, l * 22, none⟩ = some (.string (T l))) := hcs
    clear hcs
    by_cases hlt : j < n
    · obtain ⟨b, off, x, rfl, hb, hc, rfl, hs⟩ := HV.out j hlt
      clear HV
      have hc' : wr.cell? ⟨b, off + j, none⟩ = some (.string (T j)) := by rw [hbr.cell (p := ⟨b, off + j, none⟩) hb]; exact hc
      generalize hTj : T j = s at hc' hs
      have HT : Hid (T j = s) := hTj
      obtain ⟨v0, e0⟩ := hrm.2.1 (j * 22) (by omega)
      have f0 := hrm.2.2
      have HRm : Hid (Room wr w.heap.size (n * 22)) := hrm
      clear hc hTj hrm
      go_wp2
      go_roundg (n - (j + 1))
      case rel =>
        refine ⟨j + 1, by omega, by omega, by go_num, hbr.setCell (Nat.le_refl _) _, HRm.out.setCell _ _, fun l hl => ?_⟩
        by_cases e : l = j
        · subst e
          rw [HT.out]
          exact World.cell?_setCell_same _ _ _ e0
        · rw [cell_set_ne (by omega)]
          exact HC.out l (by omega)
      case measure => omega
    · clear HV
      obtain rfl : j = n := by omega
      have hlo := hrm.1
      clear hrm
      go_wp2
      go_ret
      have hb2 : Below wr.heap.size wr (wr.alloc (Obj.cells #[Value.slice (some ⟨w.heap.size, 0, none⟩) j j, Value.nilIface, Value.pointer none, Value.slice none 0 0, Value.slice none 0 0, Value.slice none 0 0, Value.slice none 0 0, Value.slice none 0 0, Value.slice none 0 0] 75)) := (Below.refl _ _).alloc (Nat.le_refl _) _
      refine ⟨_, rfl, ⟨wr.heap.size, w.heap.size, rfl, by simp, by simp; omega, ?_, ?_, ?_, fun l hl => ?_⟩, below_alloc hbr _⟩
      · simp [go_sem]
      · simp [go_sem]
      · simp [go_sem]
      · rw [hb2.cell (p := ⟨w.heap.size, l * 22, none⟩) hlo]
        exact HC.out l hl

set_option maxHeartbeats 1000000 in
theorem find_any (p : Value) (n : Nat) (T : Nat → ByteArray) (s : ByteArray) (w : World) (h : TripsAt w p n T) (hn : n ≤ 4096) (hne : ∀ j, j < n → s ≠ T j) :
    Calls Try.prog 28 #[p, .string s] w fun e w' => e = .returned (.tuple #[.int .i64 0, .bool false]) ∧ w' = w := by
  obtain ⟨bp, bn, rfl, l1, l2, c0, c1, c4, hc⟩ := h
  have HC : Hid (∀ j, j < n → w.cell? ⟨bn, j * 22, none⟩ = some (.string (T j))) := hc
  have HN : Hid (∀ j, j < n → s ≠ T j) := hne
  clear hc hne
  go_enter Try.func28, Try.ntmps28
  go_wp2
  go_loopg [6, 25] n (fun g _ i wr => wr = w ∧ ∃ j : Nat, j ≤ n ∧ n ≤ j + g ∧ i = .int .i64 j)
  case atStart => exact ⟨rfl, 0, Nat.zero_le _, by omega, rfl⟩
  case round =>
    obtain ⟨rfl, j, hj, hg, rfl⟩ := hrel
    by_cases hlt : j < n
    · have hc := HC.out j hlt
      have hne := HN.out j hlt
      generalize T j = t at hc hne
      have heq : (t.toList == s.toList) = false := by
        cases h : (t.toList == s.toList) with
        | false => rfl
        | true => exact absurd (toList_inj (by simpa using h)).symm hne
      clear HC HN hne
      go_wp2
      go_roundg (n - (j + 1))
      case rel => exact ⟨rfl, j + 1, by omega, by omega, by go_num⟩
      case measure => omega
    · clear HC HN
      go_wp2
      go_ret2
      exact ⟨rfl, rfl⟩

theorem run_make0 (w : World) : (Instr.makeSlice 94 (.int .i64 0) (.int .i64 0)).run Try.prog w = .ok (.slice (some ⟨w.heap.size, 0, none⟩) 0 0) (w.alloc (.cells #[] 50)) := by
  kernel_rfl

set_option maxHeartbeats 1000000 in
theorem rows_any (p : Value) (n : Nat) (T : Nat → ByteArray) (w : World) (h : TripsAt w p n T) :
    Calls Try.prog 27 #[p] w fun e w' => (∃ a, e = .returned (.pointer (some a))) ∧ Below w.heap.size w w' := by
  obtain ⟨bp, bn, rfl, l1, l2, c0, c1, c4, hc⟩ := h
  clear hc
  have hmk := run_make0
  go_enter Try.func27, Try.ntmps27
  go_wp2
  refine wp_loop_rounds 1 ?_
  rw [rounds_succ]
  go_wp2
  go_ret
  exact ⟨⟨_, rfl⟩, below_alloc (below_alloc (Below.refl _ _) _) _⟩

set_option maxHeartbeats 1000000 in
theorem newNodes_any (k : Nat) (w : World) (hk : k ≤ 4096) :
    Calls Try.prog 21 #[.int .i64 k] w fun e w' => (∃ g, e = .returned (.slice (some ⟨g, 0, none⟩) k k)) ∧ Below w.heap.size w w' := by
  obtain ⟨w1, hmk, hb1, hs1, hr1⟩ := mk_room Try.underlying45 info76 (by omega) w k (by omega)
  have HR1 : Hid (Room w1 w.heap.size (k * 1)) := hr1
  clear hr1 hs1
  go_enter Try.func21, Try.ntmps21
  go_wp2
  clear hmk
  go_loopg [4, 9] k (fun g _ i wr => ∃ j : Nat, j ≤ k ∧ k ≤ j + g ∧ i = .int .i64 j ∧ Below w.heap.size w wr ∧ Room wr w.heap.size (k * 1))
  case atStart => exact ⟨0, Nat.zero_le _, by omega, rfl, hb1, HR1.out⟩
  case round =>
    obtain ⟨j, hj, hg, rfl, hbr, hrm⟩ := hrel
    clear HR1 hb1
    by_cases hlt : j < k
    · obtain ⟨v0, e0⟩ := hrm.2.1 j (by omega)
      have f0 := hrm.2.2
      have HRm : Hid (Room wr w.heap.size (k * 1)) := hrm
      have hlo := hrm.1
      clear hrm
      go_wp2
      go_roundg (k - (j + 1))
      case rel =>
        have hR := HRm.out.setCell ⟨w.heap.size, j, none⟩ (Value.pointer (some ⟨wr.heap.size, 0, none⟩))
        exact ⟨j + 1, by omega, by omega, by go_num, below_alloc (hbr.setCell (Nat.le_refl _) _) _, hR.kept (by simp) (Below.heap_alloc _ _ _ hR.1)⟩
      case measure => omega
    · go_wp2
      go_ret
      exact ⟨⟨_, rfl⟩, hbr⟩

theorem ret_bool {a b : Bool} (h : a = b) : Ending.returned (.bool a) = .returned (.bool b) := by rw [h]
theorem seenB_yes {E : Nat → ByteArray} {i j : Nat} (hj : j < i) (h : ((E j).toList == (E i).toList) = true) : seenB E i = true := by
  unfold seenB
  rw [List.any_eq_true]
  exact ⟨j, List.mem_range.2 hj, h⟩
theorem seenB_no {E : Nat → ByteArray} {i : Nat} (h : ∀ j, j < i → (E j).toList ≠ (E i).toList) : seenB E i = false := by
  unfold seenB
  rw [List.any_eq_false]
  intro j hj
  simpa using h j (List.mem_range.1 hj)

set_option maxHeartbeats 1000000 in
theorem seen_any (v : Value) (m : Nat) (E : Nat → ByteArray) (i : Nat) (w : World) (h : Strs w v m E) (hm : m ≤ 4096) (hi : i < m) :
    Calls Try.prog 23 #[v, .int .i64 i] w fun e w' => e = .returned (.bool (seenB E i)) ∧ Below w.heap.size w w' := by
  obtain ⟨a, cap, rfl, h1, h2, h3⟩ := h
  have HV : Hid (∀ j, j < m → ∃ b off x, a = some ⟨b, off, none⟩ ∧ b < w.heap.size ∧ w.cell? ⟨b, off + j, none⟩ = some x ∧ x = .string (E j) ∧ (E j).size ≤ maxLen) := h3
  clear h3
  go_enter Try.func23, Try.ntmps23
  go_wp2
  go_loopg [5] i (fun g x wr => ∃ (j : Nat), j ≤ i ∧ i ≤ j + g ∧ x = .int .i64 j ∧ Below w.heap.size w wr ∧ ∀ l, l < j → (E l).toList ≠ (E i).toList)
  case atStart => exact ⟨0, Nat.zero_le _, by omega, rfl, Below.refl _ _, fun l hl => absurd hl (Nat.not_lt_zero _)⟩
  case round =>
    obtain ⟨j, hj, hg, rfl, hbr, hne⟩ := hrel
    have HN : Hid (∀ l, l < j → (E l).toList ≠ (E i).toList) := hne
    clear hne
    by_cases hlt : j < i
    · obtain ⟨b, off, x, rfl, hb, hc, rfl, hs⟩ := HV.out j (by omega)
      obtain ⟨b', off', x, he, hb', hc', rfl, hs'⟩ := HV.out i hi
      injection he with he
      injection he with e1 e2
      subst e1 e2
      clear HV
      have c1 : wr.cell? ⟨b, off + j, none⟩ = some (.string (E j)) := by rw [hbr.cell (p := ⟨b, off + j, none⟩) hb]; exact hc
      have c2 : wr.cell? ⟨b, off + i, none⟩ = some (.string (E i)) := by rw [hbr.cell (p := ⟨b, off + i, none⟩) hb]; exact hc'
      clear hc hc'
      cases heq : ((E j).toList == (E i).toList)
      · go_wp2
        go_quiet (fail)
        go_wp2
        go_roundg (i - (j + 1))
        case rel =>
          refine ⟨j + 1, by omega, by omega, by go_num, below_drewN hbr _, fun l hl => ?_⟩
          by_cases e : l = j
          · subst e
            simpa using heq
          · exact HN.out l (by omega)
        case measure => omega
      · have HS : Hid (seenB E i = true) := seenB_yes hlt heq
        go_wp2
        go_quiet (fail)
        go_wp2
        go_ret
        exact ⟨ret_bool HS.out.symm, below_drewN hbr _⟩
    · have HS : Hid (seenB E i = false) := seenB_no (fun l hl => HN.out l (by omega))
      clear HV
      go_wp2
      go_ret
      exact ⟨ret_bool HS.out.symm, hbr⟩
end Go.Proofs.Qxb6608650a
