/-
  The guard on keys: it answers yes or no, and writes in a map of its own alone.
-/
import Derived.Test.Qxb6608620aBytes
import Derived.Maps.OwnSet
namespace Go.Proofs.Qxb6608620a
open Go.RowKit Go.Maps Go.WideMaps

theorem law9 : Keyed Try.prog 9 := string_keyed Try.underlying9
theorem zero4 (w : World) : (zeroValue 4).run Try.prog w = .ok (.bool false) w := by kernel_rfl
theorem mk33 (w : World) (n : Int) : (Instr.makeMap 33 (some (.int .i64 n))).run Try.prog w = .ok (.map (some w.heap.size)) (w.alloc (.map #[] 0)) := by
  simp [Instr.makeMap, run_underlying Try.underlying33, asInt, asIntOf]
theorem plainElem_bool_inv {H : Type} {P : Program} {e : TypeId} (he : P.underlying e = some .bool) {v : Value} {z : DataW H × List MemPlace} (h : plainElem P e v = some z) : ∃ x, v = .bool x := by
  unfold plainElem at h
  rw [he] at h
  cases v <;> simp at h
  exact ⟨_, rfl⟩

set_option maxHeartbeats 1000000 in
theorem keysFit_any (v : Value) (n : Nat) (w : World) (h : Strs w v n) :
    Calls Try.prog 8 #[v] w fun e w' => (∃ b, e = .returned (.bool b)) ∧ Below w.heap.size w w' := by
  obtain ⟨a, cap, rfl, h1, h2, h3⟩ := h
  have hmk := mk33
  have HV : Hid (∀ j, j < n → ∃ b off x, a = some ⟨b, off, none⟩ ∧ b < w.heap.size ∧ w.cell? ⟨b, off + j, none⟩ = some x ∧ StrE x j) := h3
  clear h3
  have h4 : cap ≤ 9223372036854775807 := h2
  go_enter Try.func8, Try.ntmps8
  go_wp2
  go_loopg [4] n (fun g i wr => ∃ k : Nat, k ≤ n ∧ n ≤ k + g ∧ i = .int .i64 k ∧ Below w.heap.size w wr ∧ ∃ D : DataW Unit, wr.ownsMap Try.prog 9 (plainElem Try.prog 4) w.heap.size k D)
  case atStart => exact ⟨0, Nat.zero_le _, by omega, rfl, (Below.refl _ _).alloc (Nat.le_refl _) _, _, World.ownsMap_made _ _ _ _⟩
  case round =>
    obtain ⟨k, hk, hg, rfl, hbr, D, hown⟩ := hrel
    by_cases hlt : k < n
    · obtain ⟨b, off, x, rfl, hb, hc, s, rfl, hs⟩ := HV.out k hlt
      clear HV
      have hc' : wr.cell? ⟨b, off + k, none⟩ = some (.string s) := by rw [hbr.cell (p := ⟨b, off + k, none⟩) hb]; exact hc
      have hkey := keyOf_string_mk Try.underlying9 hs
      obtain ⟨v, ps, hrun, hv⟩ := hown.lookup law9 Try.underlying33 (zero4 _) (plainElem_bool Try.underlying4 false) hkey
      obtain ⟨x, rfl⟩ := plainElem_bool_inv Try.underlying4 hv
      obtain ⟨w1, hrun2, hown1, hgrow1⟩ := hown.update law9 Try.underlying33 (show k < maxLen by unfold maxLen; omega) hkey (plainElem_bool Try.underlying4 true)
      clear hv hc hkey
      cases x
      · cases hcu : (s.toList == [99, 117, 115, 116, 111, 109])
        · go_wp2
          go_roundg (n - (k + 1))
          case rel => exact ⟨k + 1, by omega, by omega, by go_num, hbr.grown hgrow1 hbr.size (fun j hj => by cases hj; exact Nat.le_refl _), _, hown1⟩
          case measure => omega
        · go_wp2
          go_ret
          exact ⟨⟨_, rfl⟩, hbr⟩
      · cases hcu : (s.toList == [99, 117, 115, 116, 111, 109])
        all_goals
          go_wp2
          go_ret
          exact ⟨⟨_, rfl⟩, hbr⟩
    · clear HV
      go_wp2
      go_ret
      exact ⟨⟨_, rfl⟩, hbr⟩
end Go.Proofs.Qxb6608620a
