/-
  The rows of entries that are none of the nodes: each its own row of NaNs.
-/
import Derived.Test.Qxb6608650aParts
namespace Go.Proofs.Qxb6608650a
open Go.RowKit Go.Maps Go.WideMaps

theorem law9 : Keyed Try.prog 9 := string_keyed Try.underlying9
theorem zero50 (w : World) : (zeroValue 50).run Try.prog w = .ok (.slice none 0 0) w := by kernel_rfl

/-- a float that is stored (the kit's laws on stores leave floats out) -/
theorem run_store_float (P : Program) (w : World) (a : Addr) (m : Mode) (k : FloatKind) (b : Nat) : (store a (.float k b) m).run P w = stored P w a (.float k b) m := run_store P w a _ m rfl
attribute [local go_sem] run_store_float

/-- block g is a row of k NaNs -/
def NaNRow (w : World) (g k : Nat) : Prop := Room w g k ∧ ∀ c, c < k → w.cell? ⟨g, c, none⟩ = some (.float .f64 nanB)
theorem NaNRow.kept {w w' : World} {g k : Nat} (h : NaNRow w g k) (hs : w.heap.size ≤ w'.heap.size) (hb : w'.heap[g]? = w.heap[g]?) : NaNRow w' g k :=
  ⟨h.1.kept hs hb, fun c hc => by rw [World.cell?_of_block (w := w) (a := ⟨g, c, none⟩) hb]; exact h.2 c hc⟩
theorem ownsMap_block {w w' : World} {b n : Nat} {D : DataW Value} (h : w.ownsMap Try.prog 9 RH b n D) (hb : w'.heap[b]? = w.heap[b]?) : w'.ownsMap Try.prog 9 RH b n D := by
  obtain ⟨es, clock, h1, r⟩ := h
  exact ⟨es, clock, hb.trans h1, r⟩

set_option maxRecDepth 100000 in
set_option maxHeartbeats 2000000 in
theorem placed_any (p v2 v3 v4 : Value) (a1 : Option Addr) (c1 k n m : Nat) (T E : Nat → ByteArray) (w : World) (ht : TripsAt w p n T) (he : Strs w v4 m E) (hn : n ≤ 4096) (hm : m ≤ 4096) (hk : k ≤ 4096) (hne : ∀ i, i < m → ∀ j, j < n → E i ≠ T j) :
    Calls Try.prog 26 #[p, .slice a1 k c1, v2, v3, v4] w fun e w' => ∃ M D G, e = .returned (.map (some M)) ∧ Below w.heap.size w w' ∧ w.heap.size ≤ M ∧ w'.ownsMap Try.prog 9 RH M m D ∧ Filled D E k m G ∧
      ∀ j, j < m → NaNRow w' (G j) k ∧ w.heap.size ≤ G j ∧ G j ≠ M := by
  have HT : Hid (TripsAt w p n T) := ht
  have HE : Hid (Strs w v4 m E) := he
  have HN : Hid (∀ i, i < m → ∀ j, j < n → E i ≠ T j) := hne
  obtain ⟨a4, cap4, rfl, e1, e2, e3⟩ := he
  clear ht e3 hne
  have hmm := @run_makeMap Try.prog
  go_enter Try.func26, Try.ntmps26
  go_wp2_with fail
  refine (rows_any _ n T _ HT.out).mono ?_
  rintro e w1 ⟨⟨ar, rfl⟩, hb1⟩
  go_wp2
  obtain ⟨M, hM⟩ : ∃ M, M = w1.heap.size := ⟨_, rfl⟩
  have HM : Hid (M = w1.heap.size) := hM
  rw [← hM]
  clear hM
  go_loopg [26] m (fun g i wr => ∃ (j : Nat) (D : DataW Value) (G : Nat → Nat), j ≤ m ∧ m ≤ j + g ∧ i = .int .i64 j ∧ Below w.heap.size w wr ∧ M < wr.heap.size ∧ wr.ownsMap Try.prog 9 RH M j D ∧ Filled D E k j G ∧
      ∀ l, l < j → NaNRow wr (G l) k ∧ w.heap.size ≤ G l ∧ G l ≠ M)
  case atStart =>
    have h0 := World.ownsMap_made (H := Value) w1 Try.prog 9 RH
    rw [← HM.out] at h0
    exact ⟨0, _, fun _ => 0, Nat.zero_le _, by omega, rfl, below_alloc hb1 _, by rw [HM.out]; simp, h0, Filled.empty _ _ _, fun l hl => absurd hl (Nat.not_lt_zero _)⟩
  case round =>
    obtain ⟨i, D, G, hi, hg, rfl, hbr, hMl, hown, hfil, hrows⟩ := hrel
    have hMw : w.heap.size ≤ M := by rw [HM.out]; exact hb1.size
    clear HM hmm
    have HF : Hid (Filled D E k i G) := hfil
    have HR : Hid (∀ l, l < i → NaNRow wr (G l) k ∧ w.heap.size ≤ G l ∧ G l ≠ M) := hrows
    clear hfil hrows
    by_cases hlt : i < m
    · obtain ⟨a', cap', he, _, _, h3⟩ := HE.out
      injection he with q1 _ q3
      subst q1 q3
      obtain ⟨b, off, x, rfl, hb, hc, rfl, hs⟩ := h3 i hlt
      clear h3
      have hc' : wr.cell? ⟨b, off + i, none⟩ = some (.string (E i)) := by rw [hbr.cell (p := ⟨b, off + i, none⟩) hb]; exact hc
      have hkey : keyOf Try.prog 9 (.string (E i)) = some (kl (E i)) := keyOf_string_mk Try.underlying9 hs
      obtain ⟨v, ps, hrun, hv⟩ := hown.lookup law9 Try.underlying47 (zero50 _) (show RH (.slice none 0 0) = some (.held nilV, []) from rfl) hkey
      have hat : D.atKey (kl (E i)) (.held nilV) = .held v := by
        unfold RH at hv
        simp only [Option.some.injEq, Prod.mk.injEq] at hv
        exact hv.1.symm
      clear hv hc
      cases hseen : seenB E i
      · have hnil : v = .slice none 0 0 := by
          have h0 := atKey_of_not_has (HF.out.unseen hseen) (DataW.held nilV)
          rw [h0] at hat
          injection hat with hat
          exact hat.symm
        subst hnil
        clear hat
        have HS : Hid (seenB E i = false) := hseen
        clear hseen
        have HK : Hid (keyOf Try.prog 9 (.string (E i)) = some (kl (E i))) := hkey
        clear hkey
        have HNi : Hid (∀ j, j < n → E i ≠ T j) := HN.out i hlt
        have HTr : Hid (TripsAt wr p n T) := HT.out.below hbr
        obtain ⟨s, hsE⟩ : ∃ s, s = E i := ⟨_, rfl⟩
        have HsE : Hid (s = E i) := hsE
        rw [← hsE] at hc' hrun
        clear hsE hs
        go_wp2_with fail
        refine (find_any _ n T _ _ HTr.out hn (by rw [HsE.out]; exact HNi.out)).mono ?_
        rintro e w2 ⟨rfl, hw2⟩
        subst hw2
        clear hrun
        obtain ⟨w3, hmk, hb3, hs3, hr3⟩ := mk_room Try.underlying50 info52 (by omega) w2 k (by omega)
        have HR3 : Hid (Room w3 w2.heap.size (k * 1)) := hr3
        clear hr3 hs3
        obtain ⟨g0, rfl⟩ : ∃ g0 : Nat, g0 = gk := ⟨_, rfl⟩
        go_wp2_with fail
        clear hmk
        go_loopg [18, 47] k (fun g _ x wi => ∃ q : Nat, q ≤ k ∧ k ≤ q + g ∧ x = .int .i64 q ∧ Below w2.heap.size w2 wi ∧ Room wi w2.heap.size (k * 1) ∧ ∀ c, c < q → wi.cell? ⟨w2.heap.size, c, none⟩ = some (.float .f64 nanB))
        case atStart => exact ⟨0, Nat.zero_le _, by omega, rfl, hb3, HR3.out, fun c hc => absurd hc (Nat.not_lt_zero _)⟩
        case round =>
          obtain ⟨q, hq, hgq, rfl, hbq, hrq, hcq⟩ := hrel
          have HC : Hid (∀ c, c < q → wr.cell? ⟨w2.heap.size, c, none⟩ = some (.float .f64 nanB)) := hcq
          clear hcq HR3 hb3
          by_cases hltq : q < k
          · obtain ⟨v0, e0⟩ := hrq.2.1 q (by omega)
            have f0 := hrq.2.2
            have HRq : Hid (Room wr w2.heap.size (k * 1)) := hrq
            clear hrq
            go_wp2_with (go_at_call 29; refine (nan_any _).mono ?_; rintro e w4 ⟨rfl, rfl⟩)
            go_roundg (k - (q + 1))
            case rel =>
              refine ⟨q + 1, by omega, by omega, by go_num, hbq.setCell (Nat.le_refl _) _, HRq.out.setCell _ _, fun c hc => ?_⟩
              by_cases e : c = q
              · subst e
                exact World.cell?_setCell_same _ _ _ e0
              · rw [cell_set_ne (fun h => e h.symm)]
                exact HC.out c (by omega)
            case measure => omega
          · obtain rfl : q = k := by omega
            have hnan : NaNRow wr w2.heap.size q := by
              refine ⟨?_, HC.out⟩
              have := hrq
              rwa [Nat.mul_one] at this
            have hown4 : wr.ownsMap Try.prog 9 RH M i D := ownsMap_block hown (hbq.block M hMl)
            obtain ⟨w5, hrun5, hown5, hgrow5⟩ := hown4.update law9 Try.underlying47 (show i < maxLen by unfold maxLen; omega) HK.out (show RH (rowV w2.heap.size q) = some (.held (rowV w2.heap.size q), []) from rfl)
            rw [← HsE.out] at hrun5
            unfold rowV at hrun5
            have HNan : Hid (NaNRow wr w2.heap.size q) := hnan
            have HO5 : Hid (w5.ownsMap Try.prog 9 RH M (i + 1) (D.put (kl (E i)) (.held (rowV w2.heap.size q)))) := hown5
            clear hnan hown4 hrq HC hown5 hown
            go_wp2
            go_roundg (m - (i + 1))
            case rel =>
              have hbw : Below w.heap.size w wr := below2 hbr hbq
              have hfil : Filled _ E q (i + 1) _ := HF.out.put HS.out (g := w2.heap.size) (fun l hl => by have := (HR.out l hl).1.1.1; omega)
              refine ⟨i + 1, _, _, by omega, by omega, by go_num, hbw.grown hgrow5 hbw.size (fun j hj => by cases hj; exact hMw), ?_, HO5.out, hfil, fun l hl => ?_⟩
              · have h1 := hgrow5.size
                have h2 := hbq.size
                omega
              · by_cases e : l < i
                · obtain ⟨r1, r2, r3⟩ := HR.out l e
                  simp only [if_pos e]
                  have hlt5 : G l < wr.heap.size := Nat.lt_of_lt_of_le r1.1.1 hbq.size
                  exact ⟨(r1.kept hbq.size (hbq.block _ r1.1.1)).kept hgrow5.size (hgrow5.block _ hlt5 (by simpa using r3)), r2, r3⟩
                · simp only [if_neg e]
                  have hgM : w2.heap.size ≠ M := by omega
                  exact ⟨HNan.out.kept hgrow5.size (hgrow5.block _ HNan.out.1.1 (by simpa using hgM)), hbr.size, hgM⟩
            case measure => omega
      · obtain ⟨j0, hj0, he0, hfil0⟩ := HF.out.seen hseen
        have hv0 : v = .slice (some ⟨G j0, 0, none⟩) k k := by
          have h0 := (HF.out.2.1 j0 hj0).1
          rw [he0, hat] at h0
          injection h0
        subst hv0
        have HF0 : Hid (Filled D E k (i + 1) (fun l => if l < i then G l else G j0)) := hfil0
        clear hfil0 hat hseen he0 hkey hs
        generalize E i = s at hc' hrun
        go_wp2
        go_roundg (m - (i + 1))
        case rel =>
          refine ⟨i + 1, _, _, by omega, by omega, by go_num, hbr, hMl, hown.mono (Nat.le_succ _), HF0.out, fun l hl => ?_⟩
          by_cases e : l < i
          · simp only [if_pos e]; exact HR.out l e
          · simp only [if_neg e]; exact HR.out j0 hj0
        case measure => omega
    · clear HT HE HN
      obtain rfl : i = m := by omega
      go_wp2
      go_ret
      exact ⟨M, D, G, rfl, hbr, hMw, hown, HF.out, HR.out⟩
end Go.Proofs.Qxb6608650a
