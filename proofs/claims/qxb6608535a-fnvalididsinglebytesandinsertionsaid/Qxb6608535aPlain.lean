/-
  The plain law of ids: a text is an id exactly when it is not empty and every byte of it is a bare-key byte. No Go here.
-/
namespace Go.Proofs.Qxb6608535a.Ids

/-- A number is that of a bare-key character. -/
def bareB (n : Int) : Bool := decide ((97 ≤ n ∧ n ≤ 122) ∨ (65 ≤ n ∧ n ≤ 90) ∨ (48 ≤ n ∧ n ≤ 57) ∨ n = 45 ∨ n = 95)
/-- Every byte is one. -/
def allB : List UInt8 → Bool
  | [] => true
  | c :: l => bareB c.toNat && allB l
/-- An id. -/
def vid (l : List UInt8) : Bool := !l.isEmpty && allB l

theorem bareB_true {n : Int} (h : (97 ≤ n ∧ n ≤ 122) ∨ (65 ≤ n ∧ n ≤ 90) ∨ (48 ≤ n ∧ n ≤ 57) ∨ n = 45 ∨ n = 95) : bareB n = true := by simp only [bareB, decide_eq_true_eq]; exact h
theorem bareB_false {n : Int} (h : ¬ ((97 ≤ n ∧ n ≤ 122) ∨ (65 ≤ n ∧ n ≤ 90) ∨ (48 ≤ n ∧ n ≤ 57) ∨ n = 45 ∨ n = 95)) : bareB n = false := by simp only [bareB, decide_eq_false_iff_not]; exact h
theorem bareB_high {n : Int} (h : 128 ≤ n) : bareB n = false := bareB_false (by omega)

theorem allB_append (a b : List UInt8) : allB (a ++ b) = (allB a && allB b) := by
  induction a with
  | nil => simp [allB]
  | cons c l ih => simp [allB, ih, Bool.and_assoc]

theorem vid_one (c : UInt8) : vid [c] = bareB c.toNat := by simp [vid, allB]

theorem vid_join (a b : List UInt8) : vid (a ++ b) = (((a.isEmpty || vid a) && (b.isEmpty || vid b)) && (!a.isEmpty || !b.isEmpty)) := by
  cases a <;> cases b <;> simp [vid, allB_append, allB, Bool.and_assoc]

theorem vid_insert (s : List UInt8) (i : Nat) (c : UInt8) : vid (s.take i ++ [c] ++ s.drop i) = ((s.isEmpty || vid s) && vid [c]) := by
  have e : allB (s.take i ++ [c] ++ s.drop i) = (allB s && bareB c.toNat) := by
    have h : allB s = (allB (s.take i) && allB (s.drop i)) := by rw [← allB_append, List.take_append_drop]
    rw [h, allB_append, allB_append]
    simp only [allB, Bool.and_true]
    cases allB (s.take i) <;> cases allB (s.drop i) <;> simp
  have hne : (s.take i ++ [c] ++ s.drop i).isEmpty = false := by simp
  unfold vid
  rw [e, hne]
  cases s <;> simp [allB]

/-- How many of the first k numbers are bare-key characters. -/
def cnt : Nat → Nat
  | 0 => 0
  | k + 1 => cnt k + if bareB (k : Int) then 1 else 0
theorem cnt_le (k : Nat) : cnt k ≤ k := by
  induction k with
  | zero => exact Nat.le_refl _
  | succ k ih => simp only [cnt]; split <;> omega
theorem cnt_256 : cnt 256 = 64 := by decide +kernel

/-- From place k on every byte is one. -/
theorem allB_drop (s : ByteArray) (k : Nat) (h : k < s.size) : allB (s.data.toList.drop k) = (bareB (s[k].toNat) && allB (s.data.toList.drop (k + 1))) := by
  rw [List.drop_eq_getElem_cons (by simpa using h)]
  rfl
theorem allB_end (s : ByteArray) (k : Nat) (h : ¬ k < s.size) : allB (s.data.toList.drop k) = true := by
  rw [List.drop_of_length_le (by simp; omega)]
  rfl
end Go.Proofs.Qxb6608535a.Ids
