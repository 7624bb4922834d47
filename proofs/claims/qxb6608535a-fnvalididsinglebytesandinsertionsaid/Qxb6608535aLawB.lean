/-
  The walk of the law on single bytes and insertion.
-/
import Derived.Test.Qxb6608535aLaws
import Derived.Deep.LoopGhost
namespace Go.Proofs.Qxb6608535a
open Go.RowKit Ids

/-- The text of one byte. -/
def oneS (n : Int) : ByteArray := strOfNums [n]
theorem oneS_data (n : Int) : (oneS n).data.toList = [UInt8.ofNat n.toNat] := rfl
theorem oneS_size (n : Int) : (oneS n).size = 1 := rfl
theorem vid_oneS {n : Int} (h0 : 0 ≤ n) (h1 : n < 256) : vid (oneS n).data.toList = bareB n := by
  rw [oneS_data, vid_one]
  congr 1
  simp
  omega
theorem conv_one (W : World) (n : Int) : (convert 25 9 (.slice (some ⟨W.heap.size, 0, none⟩) 1 1)).run Try.prog (W.alloc (.cells #[.int .u8 n] 5)) = .ok (.string (oneS n)) (W.alloc (.cells #[.int .u8 n] 5)) := by
  refine run_convert_bytes_arg (P := Try.prog) (W.alloc (.cells #[.int .u8 n] 5)) 25 5 Try.underlying25 Try.underlying5 W.heap.size 0 1 1 [n] rfl ?_ 9 Try.underlying9
  intro i hi
  obtain rfl : i = 0 := by omega
  simp [go_sem]
theorem insert_data (s t : ByteArray) (i : Nat) (_h : i ≤ s.size) : (s.extract 0 i ++ t ++ s.extract i s.size).data.toList = s.data.toList.take i ++ t.data.toList ++ s.data.toList.drop i := by
  simp only [data_append, ByteArray.data_extract, Array.toList_extract, List.extract_eq_take_drop, List.drop_zero, Nat.sub_zero]
  congr 1
  exact List.take_of_length_le (by simp)
theorem cnt_succ (k : Nat) : cnt (k + 1) = cnt k + if bareB (k : Int) then 1 else 0 := rfl

set_option maxRecDepth 100000 in
set_option maxHeartbeats 2000000 in
theorem single_walk (s : ByteArray) (i c : Int) (hs : s.size ≤ maxLen) (hc0 : 0 ≤ c) (hc1 : c < 256) (w : World) :
    Calls Try.prog 4 #[.string s, .int .i64 i, .int .u8 c] w fun e w' => e = .returned (.bool true) ∧ Below w.heap.size w w' := by
  have hcv := conv_one
  by_cases h : s.size ≤ 1048576
  · by_cases h0 : 0 ≤ i
    · by_cases h1 : i ≤ s.size
      · obtain ⟨i, rfl⟩ := Int.eq_ofNat_of_zero_le h0
        have h2 : i ≤ s.size := by omega
        have d1 : decide ((1048576 : Int) < (s.size : Int)) = false := by simp; omega
        have d2 : decide ((i : Int) < 0) = false := by simp
        have d3 : decide (s.size < i) = false := by simp; omega
        have d4 : decide ((s.size : Int) < (i : Int)) = false := by simp; omega
        go_enter Try.func4, Try.ntmps4
        go_wp2_with (go_at_call 8; refine (bytesOne_yes s i c _ h).mono ?_; rintro e w' ⟨rfl, rfl⟩)
        go_loopg [7, 8] 256 (fun g n x wr => ∃ k : Nat, k ≤ 256 ∧ 256 ≤ k + g ∧ x = .int .i64 k ∧ n = .int .i64 (cnt k) ∧ Below w'.heap.size w' wr)
        case atStart => exact ⟨0, Nat.zero_le _, Nat.le_refl _, rfl, rfl, Below.refl _ _⟩
        case round =>
          obtain ⟨k, hk, hg, rfl, rfl, hbr⟩ := hrel
          have hcl := cnt_le k
          by_cases hk2 : k < 256
          · have HC : Hid (cnt (k + 1) = cnt k + if bareB (k : Int) then 1 else 0) := cnt_succ k
            cases hb : bareB (k : Int)
            all_goals
              go_wp2_with fail
              refine (ZZValidID_any _ _).mono ?_
              rintro e w1 ⟨rfl, hb1⟩
              rw [vid_oneS (by omega) (by omega), hb]
              go_wp2
              go_roundg (256 - (k + 1))
              case rel =>
                refine ⟨k + 1, by omega, by omega, by go_num, ?_, ?_⟩
                · rw [HC.out, hb]
                  first | rfl | (simp; done)
                · exact hbr.trans ((Below.alloc (Below.refl _ _) hbr.size _).trans (hb1.mono (by simp; have := hbr.size; omega)))
              case measure => omega
          · obtain rfl : k = 256 := by omega
            have hcnt := cnt_256
            go_wp2_with fail
            refine (ZZValidID_any _ _).mono ?_
            rintro e w1 ⟨rfl, hb1⟩
            rw [vid_oneS hc0 hc1]
            cases hbc : bareB c
            all_goals
              go_wp2_with fail
              refine (bareKeyByte_any _ _).mono ?_
              rintro e w2 ⟨rfl, hw2⟩
              subst hw2
              rw [hbc]
              go_wp2_with fail
              have hz := oneS_size c
              have hz1 : ¬ 9223372036854775807 < i + (oneS c).size := by omega
              go_region
              have hbel : Below w'.heap.size w' w2.drew := (hbr.trans ((Below.alloc (Below.refl _ _) hbr.size _).trans (hb1.mono (by simp; have := hbr.size; omega)))).drew
              generalize w2.drew = w3 at hbel ⊢
              clear hb1 hcnt hcl
              have HI : Hid (vid (s.extract 0 i ++ oneS c ++ s.extract i s.size).data.toList = ((s.toList.isEmpty || vid s.data.toList) && bareB c)) := by
                show _ = _
                rw [insert_data s _ i h2, oneS_data, vid_insert, empty_iff, ← oneS_data, vid_oneS hc0 hc1]
              cases he : s.toList.isEmpty
            · go_wp2_with fail
              refine (ZZValidID_any _ _).mono ?_
              rintro e w4 ⟨rfl, hb4⟩
              rw [HI.out, he, hbc, Bool.and_false]
              go_wp2_with fail
              refine (ZZValidID_any _ _).mono ?_
              rintro e w5 ⟨rfl, hb5⟩
              cases hv : vid s.data.toList
              all_goals
                go_wp2
                go_ret
                exact ⟨rfl, below3 hbel hb4 hb5⟩
            · go_wp2_with fail
              refine (ZZValidID_any _ _).mono ?_
              rintro e w4 ⟨rfl, hb4⟩
              rw [HI.out, he, hbc, Bool.and_false]
              go_wp2
              go_ret
              exact ⟨rfl, below2 hbel hb4⟩
            · cases hv : vid s.data.toList
              all_goals
                go_wp2_with fail
                refine (ZZValidID_any _ _).mono ?_
                rintro e w4 ⟨rfl, hb4⟩
                rw [HI.out, he, hbc, hv]
                go_wp2_with fail
                refine (ZZValidID_any _ _).mono ?_
                rintro e w5 ⟨rfl, hb5⟩
                rw [hv]
                go_wp2
                go_ret
                exact ⟨rfl, below3 hbel hb4 hb5⟩
            · go_wp2_with fail
              refine (ZZValidID_any _ _).mono ?_
              rintro e w4 ⟨rfl, hb4⟩
              rw [HI.out, he, hbc, Bool.true_or, Bool.true_and]
              go_wp2
              go_ret
              exact ⟨rfl, below2 hbel hb4⟩
      · go_enter Try.func4, Try.ntmps4
        go_wp2_with (go_at_call 8; refine (bytesOne_yes s i c _ h).mono ?_; rintro e w' ⟨rfl, rfl⟩)
        go_ret
        exact ⟨rfl, Below.refl _ _⟩
    · go_enter Try.func4, Try.ntmps4
      go_wp2_with (go_at_call 8; refine (bytesOne_yes s i c _ h).mono ?_; rintro e w' ⟨rfl, rfl⟩)
      go_ret
      exact ⟨rfl, Below.refl _ _⟩
  · go_enter Try.func4, Try.ntmps4
    go_wp2_with (go_at_call 8; refine (bytesOne_no s i c _ hs h).mono ?_; rintro e w' ⟨rfl, rfl⟩)
    go_ret
    exact ⟨rfl, Below.refl _ _⟩
end Go.Proofs.Qxb6608535a
