/-
  The law: rows of entries that are none of the nodes hold no round trip.
-/
import Derived.Test.Qxb6608650aCopy
import Derived.Test.Qxb6608650aBytes
import Derived.Test.Qxb6608650aSkip
import Derived.Deep.DeepCutAuto
namespace Go.Proofs.Qxb6608650a
open Go.RowKit Go.Maps Go.WideMaps

set_option maxRecDepth 100000 in
set_option maxHeartbeats 4000000 in
theorem unheld_walk (v v2 v3 v4 : Value) (n n2 n3 m : Nat) (T E : Nat → ByteArray) (k : Int) (w : World) (h : Strs w v n T) (hr : Ints .i64 w v2 n2) (hd : Ints .i32 w v3 n3) (he : Strs w v4 m E) :
    Calls Try.prog 5 #[v, .int .i64 k, v2, v3, v4] w fun e w' => e = .returned (.bool true) ∧ Below w.heap.size w w' := by
  have HV : Hid (Strs w v n T) := h
  have HR : Hid (Ints .i64 w v2 n2) := hr
  have HD : Hid (Ints .i32 w v3 n3) := hd
  have HE : Hid (Strs w v4 m E) := he
  obtain ⟨a1, cap1, rfl, _, _, _⟩ := h
  obtain ⟨a2, cap2, rfl, _, _, _⟩ := hr
  obtain ⟨a3, cap3, rfl, _, _, _⟩ := hd
  obtain ⟨a4, cap4, rfl, _, _, _⟩ := he
  go_enter Try.func5, Try.ntmps5
  go_wp2_with fail
  refine (bytes18_any _ _ _ _ n n2 n3 m T E _ _ HV.out HR.out HD.out HE.out).mono ?_
  rintro e w1 ⟨⟨b, rfl⟩, hw1⟩
  subst hw1
  cases b with
  | false =>
    go_wp2
    go_ret
    exact ⟨rfl, Below.refl _ _⟩
  | true =>
    go_wp2_with fail
    refine (skip_any _ _ _ _ n n2 n3 m T E _ _ HV.out HR.out HD.out HE.out).mono ?_
    rintro e w2 ⟨⟨b, rfl, hsk⟩, hb2⟩
    cases b with
    | true =>
      go_wp2
      go_ret
      exact ⟨rfl, hb2⟩
    | false =>
      obtain ⟨s1, s2, s3, s4, s5, s6, s7⟩ := hsk rfl
      have HS : Hid (∀ i, i < m → ∀ j, j < n → E i ≠ T j) := s7
      clear hsk s7
      obtain ⟨k, rfl⟩ := Int.eq_ofNat_of_zero_le s5
      have HV2 : Hid (Strs w2 (.slice a1 n cap1) n T) := HV.out.below hb2
      have HR2 : Hid (Ints .i64 w2 (.slice a2 n2 cap2) n2) := HR.out.below hb2
      have HD2 : Hid (Ints .i32 w2 (.slice a3 n3 cap3) n3) := HD.out.below hb2
      have HE2 : Hid (Strs w2 (.slice a4 m cap4) m E) := HE.out.below hb2
      clear HV HR HD HE
      go_upto_if 38 with fail
      go_cut [0] (fun x wc => Strs wc x n T ∧ Below w2.heap.size w2 wc)
      case first =>
        obtain ⟨wa, wb, hmk, hcp, hbc, hrow⟩ := mk_copy Try.underlying22 info9 (by omega) str_one w2 a1 n cap1 HV2.out (by omega)
        have HX : Hid (Strs wb (.slice (some ⟨w2.heap.size, 0, none⟩) n n) n T) := hrow
        clear hrow
        cases a1 with
        | none =>
          go_wp2
          go_meet
          case rel => exact ⟨HV2.out, Below.refl _ _⟩
        | some ad =>
          go_wp2
          go_meet
          case rel => exact ⟨HX.out, hbc⟩
      case rest =>
        obtain ⟨hx0, hbc0⟩ := hcut
        have HX0 : Hid (Strs wc u0 n T) := hx0
        have HR3 : Hid (Ints .i64 wc (.slice a2 n2 cap2) n2) := HR2.out.below hbc0
        have HD3 : Hid (Ints .i32 wc (.slice a3 n3 cap3) n3) := HD2.out.below hbc0
        have HE3 : Hid (Strs wc (.slice a4 m cap4) m E) := HE2.out.below hbc0
        have hbw := below2 hb2 hbc0
        clear hx0 HV2 HR2 HD2 HE2 hb2 hbc0
        obtain ⟨wc1, rfl⟩ : ∃ wc1 : World, wc1 = wc := ⟨_, rfl⟩
        obtain ⟨x0, rfl⟩ : ∃ x0 : Value, x0 = u0 := ⟨_, rfl⟩
        go_upto_if 47 with fail
        go_cut [2] (fun _ wc => Below wc1.heap.size wc1 wc)
        case first =>
          obtain ⟨wa, wb, hmk, hcp, hbc, hrow⟩ := mk_copy Try.underlying40 info3 (by omega) int_one wc1 a2 n2 cap2 HR3.out (by omega)
          clear hrow
          cases a2 with
          | none =>
            go_wp2
            go_meet
            case rel => exact Below.refl _ _
          | some ad =>
            go_wp2
            go_meet
            case rel => exact hbc
        case rest =>
          have hbw2 := below2 hbw hcut
          have HX1 : Hid (Strs wc x0 n T) := HX0.out.below hcut
          have HD4 : Hid (Ints .i32 wc (.slice a3 n3 cap3) n3) := HD3.out.below hcut
          have HE4 : Hid (Strs wc (.slice a4 m cap4) m E) := HE3.out.below hcut
          clear HX0 HR3 HD3 HE3 hbw hcut
          obtain ⟨wc2, rfl⟩ : ∃ wc2 : World, wc2 = wc := ⟨_, rfl⟩
          obtain ⟨x2, rfl⟩ : ∃ x2 : Value, x2 = u2 := ⟨_, rfl⟩
          go_upto_if 56 with fail
          go_cut [3] (fun _ wc => Below wc2.heap.size wc2 wc)
          case first =>
            obtain ⟨wa, wb, hmk, hcp, hbc, hrow⟩ := mk_copy Try.underlying41 info21 (by omega) int_one wc2 a3 n3 cap3 HD4.out (by omega)
            clear hrow
            cases a3 with
            | none =>
              go_wp2
              go_meet
              case rel => exact Below.refl _ _
            | some ad =>
              go_wp2
              go_meet
              case rel => exact hbc
          case rest =>
            have hbw3 := below2 hbw2 hcut
            have HX2 : Hid (Strs wc x0 n T) := HX1.out.below hcut
            have HE5 : Hid (Strs wc (.slice a4 m cap4) m E) := HE4.out.below hcut
            clear HX1 HD4 HE4 hbw2 hcut
            obtain ⟨wc3, rfl⟩ : ∃ wc3 : World, wc3 = wc := ⟨_, rfl⟩
            obtain ⟨x3, rfl⟩ : ∃ x3 : Value, x3 = u3 := ⟨_, rfl⟩
            go_upto_if 65 with fail
            go_cut [4] (fun x wc => Strs wc x m E ∧ Below wc3.heap.size wc3 wc)
            case first =>
              obtain ⟨wa, wb, hmk, hcp, hbc, hrow⟩ := mk_copy Try.underlying22 info9 (by omega) str_one wc3 a4 m cap4 HE5.out (by omega)
              have HX : Hid (Strs wb (.slice (some ⟨wc3.heap.size, 0, none⟩) m m) m E) := hrow
              clear hrow
              cases a4 with
              | none =>
                go_wp2
                go_meet
                case rel => exact ⟨HE5.out, Below.refl _ _⟩
              | some ad =>
                go_wp2
                go_meet
                case rel => exact ⟨HX.out, hbc⟩
            case rest =>
              obtain ⟨hx4, hbc4⟩ := hcut
              have HE6 : Hid (Strs wc u4 m E) := hx4
              have HX3 : Hid (Strs wc x0 n T) := HX2.out.below hbc4
              have hbw4 := below2 hbw3 hbc4
              clear hx4 HX2 HE5 hbw3 hbc4
              obtain ⟨wc4, rfl⟩ : ∃ wc4 : World, wc4 = wc := ⟨_, rfl⟩
              obtain ⟨a5, cap5, hx5, _, _, _⟩ := HE6.out
              subst hx5
              go_wp2_with fail
              refine (newTrips_any _ n T _ HX3.out s1).mono ?_
              rintro e w5 ⟨p, rfl, htr, hb5⟩
              have HT : Hid (TripsAt w5 p n T) := htr
              clear htr
              go_wp2_with fail
              refine (newNodes_any k _ (by omega)).mono ?_
              rintro e w6 ⟨⟨g, rfl⟩, hb6⟩
              go_wp2_with fail
              refine (placed22_any _ _ _ _ _ _ k n m T E _ (HT.out.below hb6) (HE6.out.below (below2 hb5 hb6)) s1 s2 (by omega) HS.out).mono ?_
              rintro e w7 ⟨M, D, G, rfl, r1, r2, r3, r4, r5⟩
              have hb47 : Below wc4.heap.size wc4 w7 := below2 hb5 (below2 hb6 r1)
              have HE7 : Hid (Strs w7 (.slice a5 m cap5) m E) := HE6.out.below hb47
              have hbw7 := below2 hbw4 hb47
              have HO : Hid (w7.ownsMap Try.prog 9 RH M m D) := r3
              have HF : Hid (Filled D E k m G) := r4
              have HG : Hid (∀ j, j < m → NaNRow w7 (G j) k) := fun j hj => (r5 j hj).1
              clear r1 r2 r3 r4 r5 HT HE6 HX3 hb5 hb6 hb47 hbw4
              go_wp2
              go_loopg [18, 19] m (fun g d x wr => ∃ i : Nat, i ≤ m ∧ m ≤ i + g ∧ x = .int .i64 i ∧ d = .int .i64 (cntD E i) ∧ Below w7.heap.size w7 wr)
              case atStart => exact ⟨0, Nat.zero_le _, by omega, rfl, rfl, Below.refl _ _⟩
              case round =>
                obtain ⟨i, hi, hg, rfl, rfl, hbr⟩ := hrel
                have hcl := cntD_le E i
                by_cases hlt : i < m
                · have HC : Hid (cntD E (i + 1) = cntD E i + if seenB E i then 0 else 1) := cntD_succ E i
                  go_wp2_with fail
                  refine (seen_any _ m E i _ (HE7.out.below hbr) s2 hlt).mono ?_
                  rintro e w8 ⟨rfl, hb8⟩
                  cases hsn : seenB E i
                  all_goals
                    go_wp2
                    go_roundg (m - (i + 1))
                    case rel =>
                      refine ⟨i + 1, by omega, by omega, by go_num, ?_, below2 hbr hb8⟩
                      rw [HC.out, hsn]
                      first | rfl | (simp; done)
                    case measure => omega
                · obtain rfl : i = m := by omega
                  have hown := ownsMap_block HO.out (hbr.block M HO.out.lt)
                  have hlen := fun ty => hown.len Try.underlying47 ty
                  rw [HF.out.2.2.2.2] at hlen
                  clear hown
                  go_wp2
                  obtain ⟨w9, rfl⟩ : ∃ w9 : World, w9 = wr := ⟨_, rfl⟩
                  clear hlen
                  go_loopg [20, 21, 22, 23] i (fun g x _ _ _ wr => ∃ l : Nat, l ≤ i ∧ i ≤ l + g ∧ x = .int .i64 l ∧ Below w7.heap.size w7 wr)
                  case atStart => exact ⟨0, Nat.zero_le _, by omega, rfl, hbr⟩
                  case round =>
                    obtain ⟨l, hl, hgl, rfl, hbl⟩ := hrel
                    by_cases hlt2 : l < i
                    · obtain ⟨aa, capa, he', _, _, h3⟩ := HE7.out
                      injection he' with q1 _ q3
                      subst q1 q3
                      obtain ⟨b, off, x, rfl, hb, hc, rfl, hs⟩ := h3 l hlt2
                      clear h3
                      have hc' : wr.cell? ⟨b, off + l, none⟩ = some (.string (E l)) := by rw [hbl.cell (p := ⟨b, off + l, none⟩) hb]; exact hc
                      have hown := ownsMap_block HO.out (hbl.block M HO.out.lt)
                      obtain ⟨vv, ps, hrun, hv⟩ := hown.look_ok law9 Try.underlying47 (zero50 _) (show RH (.slice none 0 0) = some (.held nilV, []) from rfl) (show keyOf Try.prog 9 (.string (E l)) = some (kl (E l)) from keyOf_string_mk Try.underlying9 hs)
                      obtain ⟨f1, f2⟩ := HF.out.2.1 l hlt2
                      have hvv : vv = .slice (some ⟨G l, 0, none⟩) k k := by
                        unfold RH at hv
                        simp only [Option.some.injEq, Prod.mk.injEq] at hv
                        have h1 := hv.1
                        rw [f1] at h1
                        injection h1
                      subst hvv
                      rw [f2] at hrun
                      have HN : Hid (NaNRow w7 (G l) k) := HG.out l hlt2
                      clear hown hv f1 f2 hc hs
                      generalize E l = s at hc' hrun
                      generalize G l = gl at hrun HN
                      obtain ⟨wl, rfl⟩ : ∃ wl : World, wl = wr := ⟨_, rfl⟩
                      obtain ⟨g2, rfl⟩ : ∃ g2 : Nat, g2 = gk := ⟨_, rfl⟩
                      go_wp2
                      clear hrun hc'
                      go_loopg [23] k (fun g x wi => ∃ q : Nat, q ≤ k ∧ k ≤ q + g ∧ x = .int .i64 q ∧ Below w7.heap.size w7 wi)
                      case atStart => exact ⟨0, Nat.zero_le _, by omega, rfl, hbl⟩
                      case round =>
                        obtain ⟨q, hq, hgq, rfl, hbq⟩ := hrel
                        by_cases hlt3 : q < k
                        · have hcell : wr.cell? ⟨gl, q, none⟩ = some (.float .f64 nanB) := by rw [hbq.cell (p := ⟨gl, q, none⟩) HN.out.1.1]; exact HN.out.2 q hlt3
                          have hnn := nan_ne
                          go_wp2
                          go_quiet (fail)
                          go_wp2
                          go_roundg (k - (q + 1))
                          case rel => exact ⟨q + 1, by omega, by omega, by go_num, below_drewN hbq _⟩
                          case measure => omega
                        · go_wp2
                          go_roundg (i - (l + 1))
                          case rel => exact ⟨l + 1, by omega, by omega, by go_num, hbq⟩
                          case measure => omega
                    · go_wp2
                      go_ret
                      exact ⟨rfl, below2 hbw7 hbl⟩
end Go.Proofs.Qxb6608650a
