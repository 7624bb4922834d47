/-
  The walks of the two laws: the Go text returns true.
-/
import Derived.Test.Qxb6608535aWalks
namespace Go.Proofs.Qxb6608535a
open Go.RowKit Ids

set_option maxHeartbeats 400000 in
theorem bytesJoin_yes (a b : ByteArray) (w : World) (h : a.size + b.size ≤ 1048576) :
    Calls Try.prog 5 #[.string a, .string b] w fun e w' => e = .returned (.bool true) ∧ w' = w := by
  have h1 : a.size ≤ 1048576 := by omega
  have h2 : b.size ≤ 1048576 := by omega
  go_enter Try.func5, Try.ntmps5
  go_wp2
  go_ret
  exact ⟨rfl, rfl⟩

set_option maxHeartbeats 400000 in
theorem bytesJoin_no (a b : ByteArray) (w : World) (ha : a.size ≤ maxLen) (hb : b.size ≤ maxLen) (h : ¬ a.size + b.size ≤ 1048576) :
    Calls Try.prog 5 #[.string a, .string b] w fun e w' => e = .returned (.bool false) ∧ w' = w := by
  unfold maxLen at ha hb
  by_cases h1 : a.size ≤ 1048576
  · by_cases h2 : b.size ≤ 1048576
    all_goals
      go_enter Try.func5, Try.ntmps5
      go_wp2
      go_ret
      exact ⟨rfl, rfl⟩
  · go_enter Try.func5, Try.ntmps5
    go_wp2
    go_ret
    exact ⟨rfl, rfl⟩

set_option maxHeartbeats 400000 in
theorem bytesOne_yes (a : ByteArray) (i c : Int) (w : World) (h : a.size ≤ 1048576) :
    Calls Try.prog 8 #[.string a, .int .i64 i, .int .u8 c] w fun e w' => e = .returned (.bool true) ∧ w' = w := by
  go_enter Try.func8, Try.ntmps8
  go_wp2
  go_ret
  exact ⟨rfl, rfl⟩

set_option maxHeartbeats 400000 in
theorem bytesOne_no (a : ByteArray) (i c : Int) (w : World) (ha : a.size ≤ maxLen) (h : ¬ a.size ≤ 1048576) :
    Calls Try.prog 8 #[.string a, .int .i64 i, .int .u8 c] w fun e w' => e = .returned (.bool false) ∧ w' = w := by
  unfold maxLen at ha
  go_enter Try.func8, Try.ntmps8
  go_wp2
  go_ret
  exact ⟨rfl, rfl⟩

theorem below2 {a b c : World} (h1 : Below a.heap.size a b) (h2 : Below b.heap.size b c) : Below a.heap.size a c := h1.trans (h2.mono h1.size)
theorem below3 {a b c d : World} (h1 : Below a.heap.size a b) (h2 : Below b.heap.size b c) (h3 : Below c.heap.size c d) : Below a.heap.size a d := below2 (below2 h1 h2) h3
theorem data_append (a b : ByteArray) : (a ++ b).data.toList = a.data.toList ++ b.data.toList := by simp

set_option maxHeartbeats 1000000 in
theorem joins_walk (a b : ByteArray) (ha : a.size ≤ maxLen) (hb : b.size ≤ maxLen) (w : World) :
    Calls Try.prog 3 #[.string a, .string b] w fun e w' => e = .returned (.bool true) ∧ Below w.heap.size w w' := by
  by_cases h : a.size + b.size ≤ 1048576
  · have h1 : a.size ≤ 1048576 := by omega
    have h2 : b.size ≤ 1048576 := by omega
    have hJ := vid_join a.data.toList b.data.toList
    rw [← data_append, ← empty_iff, ← empty_iff] at hJ
    have HJ : Hid (vid (a ++ b).data.toList = _) := hJ
    clear hJ
    generalize hva : vid a.data.toList = va at HJ
    generalize hvb : vid b.data.toList = vb at HJ
    generalize hvab : vid (a ++ b).data.toList = vab at HJ
    cases hea : a.toList.isEmpty <;> cases heb : b.toList.isEmpty
    all_goals
      rw [hea, heb] at HJ
      go_enter Try.func3, Try.ntmps3
      go_wp2_with (go_at_call 5; refine (bytesJoin_yes a b _ h).mono ?_; rintro e w' ⟨rfl, rfl⟩)
      refine (ZZValidID_any a _).mono ?_
      rintro e w1 ⟨rfl, hb1⟩
      rw [hva]
      go_wp2_with fail
      refine (allBareKeyBytes_any a _ ha).mono ?_
      rintro e w2 ⟨rfl, hw2⟩
      subst hw2
      rw [hva]
      go_wp2_with fail
      refine (ZZValidID_any b _).mono ?_
      rintro e w3 ⟨rfl, hb3⟩
      rw [hvb]
      go_wp2_with fail
      refine (ZZValidID_any (a ++ b) _).mono ?_
      rintro e w4 ⟨rfl, hb4⟩
      rw [hvab]
      go_wp2
      all_goals go_ret
      all_goals refine ⟨ret_bool ?_, below3 hb1 hb3 hb4⟩
      all_goals have hj := HJ.out
      all_goals clear HJ hva hvb hvab hea heb hb1 hb3 hb4
      all_goals cases va <;> cases vb <;> simp_all
  · go_enter Try.func3, Try.ntmps3
    go_wp2_with (go_at_call 5; refine (bytesJoin_no a b _ ha hb h).mono ?_; rintro e w' ⟨rfl, rfl⟩)
    go_ret
    exact ⟨rfl, Below.refl _ _⟩
end Go.Proofs.Qxb6608535a
