/-
  The walks of the shared functions: what each call comes to.
-/
import Derived.Test.Qxb6608535aProg
import Derived.Test.Qxb6608535aPlain
import Derived.WalkKit
import Derived.WalkSpells
import Derived.WalkLawsBesides
namespace Go.Proofs.Qxb6608535a
open Go.RowKit Ids

theorem ret_bool {a b : Bool} (h : a = b) : Ending.returned (.bool a) = .returned (.bool b) := by rw [h]
theorem bareB_last {r : Int} (h : ¬ ((97 ≤ r ∧ r ≤ 122) ∨ (65 ≤ r ∧ r ≤ 90) ∨ (48 ≤ r ∧ r ≤ 57))) : (r == 45 || r == 95) = bareB r := by
  rw [Bool.eq_iff_iff]; simp only [bareB, Bool.or_eq_true, beq_iff_eq, decide_eq_true_eq]; omega

set_option maxHeartbeats 1000000 in
theorem inBareKey_any (r : Int) (w : World) :
    Calls Try.prog 11 #[.int .i32 r] w fun e w' => e = .returned (.bool (bareB r)) ∧ w' = w := by
  by_cases h1 : 97 ≤ r <;> by_cases h2 : r ≤ 122 <;> by_cases h3 : 65 ≤ r <;> by_cases h4 : r ≤ 90 <;> by_cases h5 : 48 ≤ r <;> by_cases h6 : r ≤ 57 <;> try (exfalso; omega)
  all_goals
    go_enter Try.func11, Try.ntmps11
    go_wp2
    all_goals go_ret
    all_goals first
      | exact ⟨ret_bool (bareB_true (by omega)).symm, rfl⟩
      | exact ⟨ret_bool (bareB_last (by omega)), rfl⟩

set_option maxHeartbeats 1000000 in
theorem bareKeyByte_any (r : Int) (w : World) :
    Calls Try.prog 9 #[.int .u8 r] w fun e w' => e = .returned (.bool (bareB r)) ∧ w' = w := by
  by_cases h1 : 97 ≤ r <;> by_cases h2 : r ≤ 122 <;> by_cases h3 : 65 ≤ r <;> by_cases h4 : r ≤ 90 <;> by_cases h5 : 48 ≤ r <;> by_cases h6 : r ≤ 57 <;> try (exfalso; omega)
  all_goals
    go_enter Try.func9, Try.ntmps9
    go_wp2
    all_goals go_ret
    all_goals first
      | exact ⟨ret_bool (bareB_true (by omega)).symm, rfl⟩
      | exact ⟨ret_bool (bareB_last (by omega)), rfl⟩

theorem empty_iff (s : ByteArray) : s.toList.isEmpty = s.data.toList.isEmpty := by rw [Go.ByteArray.toList_eq]
theorem vid_empty {s : ByteArray} (h : s.toList.isEmpty = true) : vid s.data.toList = false := by
  rw [empty_iff] at h; simp [vid, h]
theorem vid_full {s : ByteArray} (h : s.toList.isEmpty = false) : vid s.data.toList = allB (s.data.toList.drop 0) := by
  rw [empty_iff] at h; simp only [vid, h, Bool.not_false, Bool.true_and, List.drop_zero]
theorem below_iter (w : World) (s : ByteArray) (p : Nat) : Below w.heap.size w (w.iter s p) := (Below.refl _ _).alloc (Nat.le_refl _) _

set_option maxHeartbeats 1000000 in
theorem validID_any (s : ByteArray) (w : World) :
    Calls Try.prog 10 #[.string s] w fun e w' => e = .returned (.bool (vid s.data.toList)) ∧ Below w.heap.size w w' := by
  cases hs : s.toList.isEmpty
  case true =>
    have hv := vid_empty hs
    have HV : Hid (vid s.data.toList = false) := hv
    clear hv
    go_enter Try.func10, Try.ntmps10
    go_wp2
    go_ret
    exact ⟨ret_bool HV.out.symm, Below.refl _ _⟩
  case false =>
    have HV : Hid (vid s.data.toList = allB (s.data.toList.drop 0)) := vid_full hs
    go_enter Try.func10, Try.ntmps10
    go_wp2
    go_loopw [4] (fun _ w' => ∃ pos : Nat, w' = w.iter s pos ∧ vid s.data.toList = allB (s.data.toList.drop pos)) (fun _ w' => s.size - w'.iterPos w.heap.size)
    case atStart => exact ⟨0, rfl, HV.out⟩
    case round =>
      obtain ⟨pos, rfl, hv⟩ := hrel
      have HW : Hid (vid s.data.toList = allB (s.data.toList.drop pos)) := hv
      clear hv HV
      by_cases hp : pos < s.size
      · by_cases ha : (s[pos]'hp).toNat < 128
        · have hnx : ∀ ty, (Instr.next (.pointer (some ⟨w.heap.size, 0, none⟩)) true ty).run Try.prog (w.iter s pos) = _ := fun ty => run_next_ascii w s pos ty hp ha
          have HD : Hid (allB (s.data.toList.drop pos) = (bareB (s[pos].toNat) && allB (s.data.toList.drop (pos + 1)))) := allB_drop s pos hp
          cases hb : bareB ((s[pos]'hp).toNat : Int)
          all_goals
            go_wp2_with (go_at_call 11; refine (inBareKey_any _ _).mono ?_; rintro e w' ⟨rfl, rfl⟩)
          · go_ret
            exact ⟨ret_bool (by rw [HW.out, HD.out, hb]; rfl), below_iter _ _ _⟩
          · go_roundw
            case rel => exact ⟨pos + 1, rfl, by rw [HW.out, HD.out, hb, Bool.true_and]⟩
            case measure => simp; omega
        · have hnx : ∀ ty, (Instr.next (.pointer (some ⟨w.heap.size, 0, none⟩)) true ty).run Try.prog (w.iter s pos) = _ := fun ty => run_next_any w s pos ty hp
          have hd := decode_high s pos hp (by omega)
          have hb : bareB (((Utf8.decode s pos).1 : Nat) : Int) = false := bareB_high (by omega)
          have HD : Hid (vid s.data.toList = false) := by
            show _ = _
            rw [HW.out, allB_drop s pos hp, bareB_high (by omega)]; rfl
          clear hd
          go_wp2_with (go_at_call 11; refine (inBareKey_any _ _).mono ?_; rintro e w' ⟨rfl, rfl⟩)
          go_ret
          exact ⟨ret_bool HD.out.symm, below_iter _ _ _⟩
      · have hnx : ∀ ty, (Instr.next (.pointer (some ⟨w.heap.size, 0, none⟩)) true ty).run Try.prog (w.iter s pos) = _ := fun ty => run_next_end w s pos ty hp
        have HD : Hid (vid s.data.toList = true) := HW.out.trans (allB_end s pos hp)
        go_wp2
        go_ret
        exact ⟨ret_bool HD.out.symm, below_iter _ _ _⟩

set_option maxHeartbeats 400000 in
theorem ZZValidID_any (s : ByteArray) (w : World) :
    Calls Try.prog 6 #[.string s] w fun e w' => e = .returned (.bool (vid s.data.toList)) ∧ Below w.heap.size w w' := by
  go_enter Try.func6, Try.ntmps6
  go_wp2_with (go_at_call 10; refine (validID_any _ _).mono ?_; rintro e w' ⟨rfl, hb⟩)
  go_ret
  exact ⟨rfl, hb⟩

set_option maxHeartbeats 1000000 in
theorem allBareKeyBytes_any (s : ByteArray) (w : World) (hm : s.size ≤ maxLen) :
    Calls Try.prog 7 #[.string s] w fun e w' => e = .returned (.bool (vid s.data.toList)) ∧ w' = w := by
  unfold maxLen at hm
  cases hs : s.toList.isEmpty
  case true =>
    have HV : Hid (vid s.data.toList = false) := vid_empty hs
    go_enter Try.func7, Try.ntmps7
    go_wp2
    go_ret
    exact ⟨ret_bool HV.out.symm, rfl⟩
  case false =>
    have HV : Hid (vid s.data.toList = allB (s.data.toList.drop 0)) := vid_full hs
    go_enter Try.func7, Try.ntmps7
    go_wp2
    go_loop [3] (fun i => ∃ k : Nat, k ≤ s.size ∧ i = .int .i64 k ∧ vid s.data.toList = allB (s.data.toList.drop k)) (fun i => s.size - (intOf i).toNat)
    case atStart => exact ⟨0, Nat.zero_le _, rfl, HV.out⟩
    case round =>
      obtain ⟨k, hk, rfl, hv⟩ := hrel
      have HW : Hid (vid s.data.toList = allB (s.data.toList.drop k)) := hv
      clear hv HV
      by_cases hp : k < s.size
      · have HD : Hid (allB (s.data.toList.drop k) = (bareB (s[k].toNat) && allB (s.data.toList.drop (k + 1)))) := allB_drop s k hp
        cases hb : bareB ((s[k]'hp).toNat : Int)
        all_goals
          go_wp2_with (go_at_call 9; refine (bareKeyByte_any _ _).mono ?_; rintro e w' ⟨rfl, rfl⟩)
        · go_ret
          exact ⟨ret_bool (by rw [HW.out, HD.out, hb]; rfl), rfl⟩
        · go_round
          case rel => exact ⟨k + 1, by omega, by go_num, by rw [HW.out, HD.out, hb, Bool.true_and]⟩
          case measure => simp [intOf]; omega
      · have HD : Hid (vid s.data.toList = true) := HW.out.trans (allB_end s k hp)
        go_wp2
        go_ret
        exact ⟨ret_bool HD.out.symm, rfl⟩
end Go.Proofs.Qxb6608535a
