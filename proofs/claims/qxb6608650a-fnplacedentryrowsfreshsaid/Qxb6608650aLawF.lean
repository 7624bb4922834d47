/-
  The law: rows of entries that are none of the nodes are each their own.
-/
import Derived.Test.Qxb6608650aMarks
import Derived.Test.Qxb6608650aBytes
import Derived.Test.Qxb6608650aSkip
import Derived.Deep.DeepCutAuto
namespace Go.Proofs.Qxb6608650a
open Go.RowKit Go.Maps Go.WideMaps

attribute [local go_sem] run_store_float
set_option maxRecDepth 100000 in
set_option maxHeartbeats 4000000 in
theorem fresh_walk (v v2 v3 v4 : Value) (n n2 n3 m : Nat) (T E : Nat → ByteArray) (k : Int) (w : World) (h : Strs w v n T) (hr : Ints .i64 w v2 n2) (hd : Ints .i32 w v3 n3) (he : Strs w v4 m E) :
    Calls Try.prog 6 #[v, .int .i64 k, v2, v3, v4] w fun e w' => e = .returned (.bool true) ∧ Below w.heap.size w w' := by
  have HV : Hid (Strs w v n T) := h
  have HR : Hid (Ints .i64 w v2 n2) := hr
  have HD : Hid (Ints .i32 w v3 n3) := hd
  have HE : Hid (Strs w v4 m E) := he
  obtain ⟨a1, cap1, rfl, _, _, _⟩ := h
  obtain ⟨a2, cap2, rfl, _, _, _⟩ := hr
  obtain ⟨a3, cap3, rfl, _, _, _⟩ := hd
  obtain ⟨a4, cap4, rfl, _, _, _⟩ := he
  go_enter Try.func6, Try.ntmps6
  go_wp2_with fail
  refine (bytes24_any _ _ _ _ n n2 n3 m T E _ _ HV.out HR.out HD.out HE.out).mono ?_
  rintro e w1 ⟨⟨b, rfl⟩, hw1⟩
  subst hw1
  cases b with
  | false =>
    go_wp2
    go_ret
    exact ⟨rfl, Below.refl _ _⟩
  | true =>
    go_wp2_with fail
    refine (skip_any _ _ _ _ n n2 n3 m T E _ _ HV.out HR.out HD.out HE.out).mono ?_
    rintro e w2 ⟨⟨b, rfl, hsk⟩, hb2⟩
    cases b with
    | true =>
      go_wp2
      go_ret
      exact ⟨rfl, hb2⟩
    | false =>
      obtain ⟨s1, s2, s3, s4, s5, s6, s7⟩ := hsk rfl
      have HS : Hid (∀ i, i < m → ∀ j, j < n → E i ≠ T j) := s7
      clear hsk s7
      obtain ⟨k, rfl⟩ := Int.eq_ofNat_of_zero_le s5
      have HV2 : Hid (Strs w2 (.slice a1 n cap1) n T) := HV.out.below hb2
      have HR2 : Hid (Ints .i64 w2 (.slice a2 n2 cap2) n2) := HR.out.below hb2
      have HD2 : Hid (Ints .i32 w2 (.slice a3 n3 cap3) n3) := HD.out.below hb2
      have HE2 : Hid (Strs w2 (.slice a4 m cap4) m E) := HE.out.below hb2
      clear HV HR HD HE
      go_upto_if 40 with fail
      go_cut [0] (fun x wc => Strs wc x n T ∧ Below w2.heap.size w2 wc)
      case first =>
        obtain ⟨wa, wb, hmk, hcp, hbc, hrow⟩ := mk_copy Try.underlying22 info9 (by omega) str_one w2 a1 n cap1 HV2.out (by omega)
        have HX : Hid (Strs wb (.slice (some ⟨w2.heap.size, 0, none⟩) n n) n T) := hrow
        clear hrow
        cases a1 with
        | none =>
          go_wp2
          go_meet
          case rel => exact ⟨HV2.out, Below.refl _ _⟩
        | some ad =>
          go_wp2
          go_meet
          case rel => exact ⟨HX.out, hbc⟩
      case rest =>
        obtain ⟨hx0, hbc0⟩ := hcut
        have HX0 : Hid (Strs wc u0 n T) := hx0
        have HR3 : Hid (Ints .i64 wc (.slice a2 n2 cap2) n2) := HR2.out.below hbc0
        have HD3 : Hid (Ints .i32 wc (.slice a3 n3 cap3) n3) := HD2.out.below hbc0
        have HE3 : Hid (Strs wc (.slice a4 m cap4) m E) := HE2.out.below hbc0
        have hbw := below2 hb2 hbc0
        clear hx0 HV2 HR2 HD2 HE2 hb2 hbc0
        obtain ⟨wc1, rfl⟩ : ∃ wc1 : World, wc1 = wc := ⟨_, rfl⟩
        obtain ⟨x0, rfl⟩ : ∃ x0 : Value, x0 = u0 := ⟨_, rfl⟩
        go_upto_if 49 with fail
        go_cut [2] (fun _ wc => Below wc1.heap.size wc1 wc)
        case first =>
          obtain ⟨wa, wb, hmk, hcp, hbc, hrow⟩ := mk_copy Try.underlying40 info3 (by omega) int_one wc1 a2 n2 cap2 HR3.out (by omega)
          clear hrow
          cases a2 with
          | none =>
            go_wp2
            go_meet
            case rel => exact Below.refl _ _
          | some ad =>
            go_wp2
            go_meet
            case rel => exact hbc
        case rest =>
          have hbw2 := below2 hbw hcut
          have HX1 : Hid (Strs wc x0 n T) := HX0.out.below hcut
          have HD4 : Hid (Ints .i32 wc (.slice a3 n3 cap3) n3) := HD3.out.below hcut
          have HE4 : Hid (Strs wc (.slice a4 m cap4) m E) := HE3.out.below hcut
          clear HX0 HR3 HD3 HE3 hbw hcut
          obtain ⟨wc2, rfl⟩ : ∃ wc2 : World, wc2 = wc := ⟨_, rfl⟩
          obtain ⟨x2, rfl⟩ : ∃ x2 : Value, x2 = u2 := ⟨_, rfl⟩
          go_upto_if 58 with fail
          go_cut [3] (fun _ wc => Below wc2.heap.size wc2 wc)
          case first =>
            obtain ⟨wa, wb, hmk, hcp, hbc, hrow⟩ := mk_copy Try.underlying41 info21 (by omega) int_one wc2 a3 n3 cap3 HD4.out (by omega)
            clear hrow
            cases a3 with
            | none =>
              go_wp2
              go_meet
              case rel => exact Below.refl _ _
            | some ad =>
              go_wp2
              go_meet
              case rel => exact hbc
          case rest =>
            have hbw3 := below2 hbw2 hcut
            have HX2 : Hid (Strs wc x0 n T) := HX1.out.below hcut
            have HE5 : Hid (Strs wc (.slice a4 m cap4) m E) := HE4.out.below hcut
            clear HX1 HD4 HE4 hbw2 hcut
            obtain ⟨wc3, rfl⟩ : ∃ wc3 : World, wc3 = wc := ⟨_, rfl⟩
            obtain ⟨x3, rfl⟩ : ∃ x3 : Value, x3 = u3 := ⟨_, rfl⟩
            go_upto_if 67 with fail
            go_cut [4] (fun x wc => Strs wc x m E ∧ Below wc3.heap.size wc3 wc)
            case first =>
              obtain ⟨wa, wb, hmk, hcp, hbc, hrow⟩ := mk_copy Try.underlying22 info9 (by omega) str_one wc3 a4 m cap4 HE5.out (by omega)
              have HX : Hid (Strs wb (.slice (some ⟨wc3.heap.size, 0, none⟩) m m) m E) := hrow
              clear hrow
              cases a4 with
              | none =>
                go_wp2
                go_meet
                case rel => exact ⟨HE5.out, Below.refl _ _⟩
              | some ad =>
                go_wp2
                go_meet
                case rel => exact ⟨HX.out, hbc⟩
            case rest =>
              obtain ⟨hx4, hbc4⟩ := hcut
              have HE6 : Hid (Strs wc u4 m E) := hx4
              have HX3 : Hid (Strs wc x0 n T) := HX2.out.below hbc4
              have hbw4 := below2 hbw3 hbc4
              clear hx4 HX2 HE5 hbw3 hbc4
              obtain ⟨wc4, rfl⟩ : ∃ wc4 : World, wc4 = wc := ⟨_, rfl⟩
              obtain ⟨a5, cap5, hx5, _, _, _⟩ := HE6.out
              subst hx5
              go_wp2_with fail
              refine (newTrips_any _ n T _ HX3.out s1).mono ?_
              rintro e w5 ⟨p, rfl, htr, hb5⟩
              have HT : Hid (TripsAt w5 p n T) := htr
              clear htr
              go_wp2_with fail
              refine (newNodes_any k _ (by omega)).mono ?_
              rintro e w6 ⟨⟨g, rfl⟩, hb6⟩
              go_wp2_with fail
              refine (placed22_any _ _ _ _ _ _ k n m T E _ (HT.out.below hb6) (HE6.out.below (below2 hb5 hb6)) s1 s2 (by omega) HS.out).mono ?_
              rintro e w7 ⟨M, D, G, rfl, r1, r2, r3, r4, r5⟩
              have hb47 : Below wc4.heap.size wc4 w7 := below2 hb5 (below2 hb6 r1)
              have HE7 : Hid (Strs w7 (.slice a5 m cap5) m E) := HE6.out.below hb47
              have hbw7 := below2 hbw4 hb47
              have HO : Hid (w7.ownsMap Try.prog 9 RH M m D) := r3
              have HF : Hid (Filled D E k m G) := r4
              have HG : Hid (∀ j, j < m → NaNRow w7 (G j) k ∧ w6.heap.size ≤ G j ∧ G j ≠ M) := r5
              have HE8 : Hid (Strs w6 (.slice a5 m cap5) m E) := HE6.out.below (below2 hb5 hb6)
              have hb67 : Below w6.heap.size w6 w7 := r1
              clear r1 r2 r3 r4 r5 HT HE6 HX3 hb47 HE7
              have hb46 := below2 hbw4 (below2 hb5 hb6)
              clear hb5 hb6 hbw4 hbw7
              go_wp2
              go_loopg [18, 19, 20, 21] m (fun g d x _ _ wr => ∃ (i : Nat) (mk : Nat → Option Nat), i ≤ m ∧ m ≤ i + g ∧ x = .int .i64 i ∧ d = .int .i64 (cntD E i) ∧ Below w6.heap.size w6 wr ∧ wr.heap[M]? = w7.heap[M]? ∧ Marked E G m i mk ∧ ∀ l, l < m → RowAt wr (G l) k (mk (G l)))
              case atStart => exact ⟨0, fun _ => none, Nat.zero_le _, by omega, rfl, rfl, hb67, rfl, Marked.start _ _ _, fun l hl => (HG.out l hl).1.rowAt⟩
              case round =>
                obtain ⟨i, mk, hi, hg, rfl, rfl, hbr, hMb, hmk, hrows⟩ := hrel
                have HK : Hid (Marked E G m i mk) := hmk
                have HW : Hid (∀ l, l < m → RowAt wr (G l) k (mk (G l))) := hrows
                have HM : Hid (wr.heap[M]? = w7.heap[M]?) := hMb
                clear hmk hrows hMb
                have hcl := cntD_le E i
                by_cases hlt : i < m
                · have HC : Hid (cntD E (i + 1) = cntD E i + if seenB E i then 0 else 1) := cntD_succ E i
                  go_wp2_with fail
                  refine (seen_any _ m E i _ (HE8.out.below hbr) s2 hlt).mono ?_
                  rintro e w8 ⟨rfl, hb8⟩
                  have hbr8 := below2 hbr hb8
                  have HM8 : Hid (w8.heap[M]? = w7.heap[M]?) := (hb8.block M (by
                    have h1 := HO.out.lt
                    rcases Nat.lt_or_ge M wr.heap.size with h | h
                    · exact h
                    · have h2 := HM.out
                      rw [Array.getElem?_eq_none h, Array.getElem?_eq_getElem h1] at h2
                      cases h2)).trans HM.out
                  have HW8 : Hid (∀ l, l < m → RowAt w8 (G l) k (mk (G l))) := fun l hl => (HW.out l hl).kept hb8.size (hb8.block _ (HW.out l hl).1.1)
                  clear HW HM hb8 hbr
                  cases hsn : seenB E i
                  · obtain ⟨aa, capa, he', _, _, h3⟩ := HE8.out
                    injection he' with q1 _ q3
                    subst q1 q3
                    obtain ⟨b, off, x, rfl, hb, hc, rfl, hs⟩ := h3 i hlt
                    clear h3
                    have hc' : w8.cell? ⟨b, off + i, none⟩ = some (.string (E i)) := by rw [hbr8.cell (p := ⟨b, off + i, none⟩) hb]; exact hc
                    have hown := ownsMap_block HO.out HM8.out
                    obtain ⟨vv, ps, hrun, hv⟩ := hown.look_ok law9 Try.underlying47 (zero50 _) (show RH (.slice none 0 0) = some (.held nilV, []) from rfl) (show keyOf Try.prog 9 (.string (E i)) = some (kl (E i)) from keyOf_string_mk Try.underlying9 hs)
                    obtain ⟨f1, f2⟩ := HF.out.2.1 i hlt
                    have hvv : vv = .slice (some ⟨G i, 0, none⟩) k k := by
                      unfold RH at hv
                      simp only [Option.some.injEq, Prod.mk.injEq] at hv
                      have h1 := hv.1
                      rw [f1] at h1
                      injection h1
                    subst hvv
                    rw [f2] at hrun
                    have HRi : Hid (RowAt w8 (G i) k none) := by
                      have h1 := HW8.out i hlt
                      rw [HK.out.2 i (Nat.le_refl _) hlt hsn] at h1
                      exact h1
                    have HD : Hid (cntD E (i + 1) = cntD E i + 1) := by
                      show _ = _
                      rw [HC.out, hsn]; rfl
                    have HNext : Hid (Marked E G m (i + 1) (putMark mk (G i) (cntD E i))) := HK.out.put hlt HF.out.2.2.1 hsn
                    clear hown hv f1 f2 hc hs HC hsn
                    generalize E i = s at hc' hrun
                    obtain ⟨d, hd⟩ : ∃ d, d = cntD E i := ⟨_, rfl⟩
                    rw [← hd] at hcl HD HNext
                    have Hd : Hid (d = cntD E i) := hd
                    rw [← hd]
                    clear hd
                    obtain ⟨gi, hgi⟩ : ∃ gi, gi = G i := ⟨_, rfl⟩
                    rw [← hgi] at hrun HRi HNext
                    have Hgi : Hid (gi = G i) := hgi
                    clear hgi
                    by_cases hk0 : 0 < k
                    · have hcell : w8.cell? ⟨gi, d % k, none⟩ = some (.float .f64 nanB) := HRi.out.2 _ (Nat.mod_lt _ hk0)
                      have hfr := HRi.out.1.2.2
                      have hml := Nat.mod_lt d hk0
                      go_wp2
                      go_roundg (m - (i + 1))
                      case rel =>
                        obtain ⟨_, hge, hgM⟩ := HG.out i hlt
                        rw [← Hgi.out] at hge hgM
                        refine ⟨i + 1, _, by omega, by omega, by go_num, ?_, hbr8.setCell hge _, ?_, HNext.out, fun l hl => ?_⟩
                        · rw [HD.out]; go_num
                        · rw [Below.heap_setCell _ _ _ _ (fun e => hgM e.symm)]
                          exact HM8.out
                        · by_cases e : G l = gi
                          · simp only [putMark, if_pos e]
                            rw [e]
                            exact HRi.out.mark hk0
                          · simp only [putMark, if_neg e]
                            exact (HW8.out l hl).kept (by simp [World.setCell]) (Below.heap_setCell _ _ _ _ e)
                      case measure => omega
                    · obtain rfl : k = 0 := by omega
                      go_wp2
                      go_roundg (m - (i + 1))
                      case rel =>
                        refine ⟨i + 1, _, by omega, by omega, by go_num, ?_, hbr8, HM8.out, HNext.out, fun l hl => ?_⟩
                        · rw [HD.out]; go_num
                        · by_cases e : G l = gi
                          · simp only [putMark, if_pos e]
                            rw [e]
                            exact HRi.out.mark0
                          · simp only [putMark, if_neg e]
                            exact HW8.out l hl
                      case measure => omega
                  · go_wp2
                    go_roundg (m - (i + 1))
                    case rel =>
                      refine ⟨i + 1, mk, by omega, by omega, by go_num, ?_, hbr8, HM8.out, HK.out.seen hsn, HW8.out⟩
                      rw [HC.out, hsn]
                      first | rfl | (simp; done)
                    case measure => omega
                · obtain rfl : i = m := by omega
                  have hMlt : M < wr.heap.size := by
                    have h1 := HO.out.lt
                    rcases Nat.lt_or_ge M wr.heap.size with h | h
                    · exact h
                    · have h2 := HM.out
                      rw [Array.getElem?_eq_none h, Array.getElem?_eq_getElem h1] at h2
                      cases h2
                  have HO9 : Hid (wr.ownsMap Try.prog 9 RH M i D) := ownsMap_block HO.out HM.out
                  have hlen := fun ty => HO9.out.len Try.underlying47 ty
                  rw [HF.out.2.2.2.2] at hlen
                  have HE9 : Hid (Strs wr (.slice a5 i cap5) i E) := HE8.out.below hbr
                  have hbw := below2 hb46 hbr
                  clear HO HM HG HE8 hb67 hb46 hbr
                  go_wp2
                  obtain ⟨w9, rfl⟩ : ∃ w9 : World, w9 = wr := ⟨_, rfl⟩
                  clear hlen
                  go_loopg [22, 23, 24, 25] i (fun g d x _ _ wr => ∃ l : Nat, l ≤ i ∧ i ≤ l + g ∧ x = .int .i64 l ∧ d = .int .i64 (cntD E l) ∧ Below w9.heap.size w9 wr)
                  case atStart => exact ⟨0, Nat.zero_le _, by omega, rfl, rfl, Below.refl _ _⟩
                  case round =>
                    obtain ⟨l, hl, hgl, rfl, rfl, hbl⟩ := hrel
                    have hcl2 := cntD_le E l
                    by_cases hlt2 : l < i
                    · have HC : Hid (cntD E (l + 1) = cntD E l + if seenB E l then 0 else 1) := cntD_succ E l
                      go_wp2_with fail
                      refine (seen_any _ i E l _ (HE9.out.below hbl) s2 hlt2).mono ?_
                      rintro e w10 ⟨rfl, hb10⟩
                      have hbl10 := below2 hbl hb10
                      clear hb10 hbl
                      cases hsn : seenB E l
                      · obtain ⟨aa, capa, he', _, _, h3⟩ := HE9.out
                        injection he' with q1 _ q3
                        subst q1 q3
                        obtain ⟨b, off, x, rfl, hb, hc, rfl, hs⟩ := h3 l hlt2
                        clear h3
                        have hc' : w10.cell? ⟨b, off + l, none⟩ = some (.string (E l)) := by rw [hbl10.cell (p := ⟨b, off + l, none⟩) hb]; exact hc
                        have hown := ownsMap_block HO9.out (hbl10.block M hMlt)
                        obtain ⟨vv, ps, hrun, hv⟩ := hown.lookup law9 Try.underlying47 (zero50 _) (show RH (.slice none 0 0) = some (.held nilV, []) from rfl) (show keyOf Try.prog 9 (.string (E l)) = some (kl (E l)) from keyOf_string_mk Try.underlying9 hs)
                        obtain ⟨f1, f2⟩ := HF.out.2.1 l hlt2
                        have hvv : vv = .slice (some ⟨G l, 0, none⟩) k k := by
                          unfold RH at hv
                          simp only [Option.some.injEq, Prod.mk.injEq] at hv
                          have h1 := hv.1
                          rw [f1] at h1
                          injection h1
                        subst hvv
                        have HRl : Hid (RowAt w9 (G l) k (some (cntD E l))) := by
                          have h1 := HW.out l hlt2
                          rw [HK.out.1 l hlt2 hsn] at h1
                          exact h1
                        have HD : Hid (cntD E (l + 1) = cntD E l + 1) := by
                          show _ = _
                          rw [HC.out, hsn]; rfl
                        clear hown hv f1 f2 hc hs HC hsn
                        generalize E l = s at hc' hrun
                        obtain ⟨d, hd⟩ : ∃ d, d = cntD E l := ⟨_, rfl⟩
                        rw [← hd] at hcl2 HD HRl
                        rw [← hd]
                        clear hd
                        generalize G l = gl at hrun HRl
                        obtain ⟨wl, rfl⟩ : ∃ wl : World, wl = w10 := ⟨_, rfl⟩
                        obtain ⟨g2, rfl⟩ : ∃ g2 : Nat, g2 = gk := ⟨_, rfl⟩
                        go_wp2
                        clear hrun hc'
                        go_loopg [25] k (fun g x wi => ∃ q : Nat, q ≤ k ∧ k ≤ q + g ∧ x = .int .i64 q ∧ Below w9.heap.size w9 wi)
                        case atStart => exact ⟨0, Nat.zero_le _, by omega, rfl, hbl10⟩
                        case round =>
                          obtain ⟨q, hq, hgq, rfl, hbq⟩ := hrel
                          by_cases hlt3 : q < k
                          · have hcell : wr.cell? ⟨gl, q, none⟩ = some (.float .f64 (markV k (some d) q)) := by rw [hbq.cell (p := ⟨gl, q, none⟩) HRl.out.1.1]; exact HRl.out.2 q hlt3
                            have hk0 : 0 < k := by omega
                            have hml := Nat.mod_lt d hk0
                            by_cases hqd : q = d % k
                            · subst hqd
                              have hcell2 : wr.cell? ⟨gl, d % k, none⟩ = some (.float .f64 (floatOfInt .f64 (d : Int))) := by
                                rw [hcell]; simp [markV, fl]
                              have hself := fl_self (d := d) (by omega)
                              unfold fl at hself
                              clear hcell
                              go_wp2
                              go_roundg (k - (d % k + 1))
                              case rel => exact ⟨d % k + 1, by omega, by omega, by go_num, hbq⟩
                              case measure => omega
                            · have hcell2 : wr.cell? ⟨gl, q, none⟩ = some (.float .f64 nanB) := by
                                rw [hcell]; simp [markV, hqd]
                              have hnn := nan_ne
                              have hqb : ((q : Int) == ((d % k : Nat) : Int)) = false := by
                                rw [beq_eq_false_iff_ne]; omega
                              clear hcell
                              go_wp2
                              go_quiet (fail)
                              go_wp2
                              go_roundg (k - (q + 1))
                              case rel => exact ⟨q + 1, by omega, by omega, by go_num, below_drewN hbq _⟩
                              case measure => omega
                          · go_wp2
                            go_roundg (i - (l + 1))
                            case rel =>
                              refine ⟨l + 1, by omega, by omega, by go_num, ?_, hbq⟩
                              rw [HD.out]; go_num
                            case measure => omega
                      · go_wp2
                        go_roundg (i - (l + 1))
                        case rel =>
                          refine ⟨l + 1, by omega, by omega, by go_num, ?_, hbl10⟩
                          rw [HC.out, hsn]
                          first | rfl | (simp; done)
                        case measure => omega
                    · go_wp2
                      go_ret
                      exact ⟨rfl, below2 hbw hbl⟩
end Go.Proofs.Qxb6608650a
