/-
  DERIVED. The walks of the generator's functions.
-/
import Derived.Test.Qxb6608650aFmtShelf
import Derived.Test.Qxb6608650aFmtPcg
import Derived.WalkKit
import Derived.WalkSpells
import Derived.WalkLawsBesides
import Derived.Deep.LoopGhost
import Derived.Deep.QuietTactic
import Derived.BigQuiet
namespace Go.Proofs.Qxb6608650aFmt
open Go.RowKit

/-- Block q holds the generator's state s. -/
def IsPcg (w : World) (q s : Nat) : Prop :=
  q < w.heap.size ∧ w.cell? ⟨q, 0, none⟩ = some (.int .u64 ((s / 18446744073709551616 : Nat) : Int)) ∧ w.cell? ⟨q, 1, none⟩ = some (.int .u64 ((s % 18446744073709551616 : Nat) : Int)) ∧ ∀ j, w.frozen? ⟨q, j, none⟩ = false

/-- Of what was there block q alone has turned. -/
structure Only (q : Nat) (w w' : World) : Prop where
  bel : Below q w w'
  rest : ∀ b, b ≠ q → b < w.heap.size → w'.heap[b]? = w.heap[b]?

theorem Only.refl (q : Nat) (w : World) : Only q w w := ⟨Below.refl _ _, fun _ _ _ => rfl⟩
theorem Only.trans {q : Nat} {a b c : World} (h : Only q a b) (k : Only q b c) : Only q a c :=
  ⟨h.bel.trans k.bel, fun i hi hl => (k.rest i hi (Nat.lt_of_lt_of_le hl h.bel.size)).trans (h.rest i hi hl)⟩
theorem Only.drewN {q : Nat} {a b : World} (h : Only q a b) (n : Nat) : Only q a (b.drewN n) := ⟨h.bel.trans ⟨rfl, rfl, rfl, Nat.le_refl _, fun _ _ => rfl⟩, h.rest⟩
theorem Only.set {q : Nat} {a b : World} (h : Only q a b) (o : Nat) (v : Value) : Only q a (b.setCell ⟨q, o, none⟩ v) :=
  ⟨h.bel.setCell (Nat.le_refl _) v, fun i hi hl => (Below.heap_setCell b ⟨q, o, none⟩ v i hi).trans (h.rest i hi hl)⟩

theorem step_parts (mH mL iH iL hi lo h1 l1 c l3 : Nat) (e1 : lo * mL = h1 * 18446744073709551616 + l1) (e2 : l1 + iL = c * 18446744073709551616 + l3) :
    (mH * 18446744073709551616 + mL) * (hi * 18446744073709551616 + lo) + (iH * 18446744073709551616 + iL) =
      (h1 + hi * mL + lo * mH + iH + c) * 18446744073709551616 + l3 + mH * hi * (18446744073709551616 * 18446744073709551616) := by
  grind

theorem pnext_parts (hi lo : Nat) :
    pnext (hi * 18446744073709551616 + lo) =
      ((((lo * 4865540595714422341 / 18446744073709551616 + hi * 4865540595714422341 + lo * 2549297995355413924) % 18446744073709551616 + 6364136223846793005 + (lo * 4865540595714422341 % 18446744073709551616 + 1442695040888963407) / 18446744073709551616) % 18446744073709551616) * 18446744073709551616 +
        (lo * 4865540595714422341 % 18446744073709551616 + 1442695040888963407) % 18446744073709551616) := by
  have k := step_parts 2549297995355413924 4865540595714422341 6364136223846793005 1442695040888963407 hi lo (lo * 4865540595714422341 / 18446744073709551616) (lo * 4865540595714422341 % 18446744073709551616)
    ((lo * 4865540595714422341 % 18446744073709551616 + 1442695040888963407) / 18446744073709551616) ((lo * 4865540595714422341 % 18446744073709551616 + 1442695040888963407) % 18446744073709551616) (by omega) (by omega)
  unfold pnext
  rw [show (1 + 4 * 11756561921985530462036051872959380881) = 2549297995355413924 * 18446744073709551616 + 4865540595714422341 from by decide,
    show 2 * 58698796085763056634279467059502104743 + 1 = 6364136223846793005 * 18446744073709551616 + 1442695040888963407 from by decide, k,
    show 2 ^ 128 = 18446744073709551616 * 18446744073709551616 from by decide, Nat.add_mul_mod_self_right]
  generalize lo * 4865540595714422341 / 18446744073709551616 + hi * 4865540595714422341 + lo * 2549297995355413924 = X
  have hl := Nat.mod_lt (lo * 4865540595714422341 % 18446744073709551616 + 1442695040888963407) (show 18446744073709551616 > 0 by decide)
  generalize (lo * 4865540595714422341 % 18446744073709551616 + 1442695040888963407) % 18446744073709551616 = l3 at *
  generalize (lo * 4865540595714422341 % 18446744073709551616 + 1442695040888963407) / 18446744073709551616 = c
  omega

theorem wrap_next (h1 hi lo : Nat) : IntKind.u64.wrap ((h1 : Int) + IntKind.u64.wrap (IntKind.u64.wrap ((hi : Int) * 4865540595714422341) + IntKind.u64.wrap ((lo : Int) * 2549297995355413924))) =
    (((h1 + hi * 4865540595714422341 + lo * 2549297995355413924) % 18446744073709551616 : Nat) : Int) := by
  simp only [IntKind.wrap_u64]
  omega

theorem cell_set_ne {w : World} {b o o' : Nat} {u : Value} (h : o ≠ o') : (w.setCell ⟨b, o, none⟩ u).cell? ⟨b, o', none⟩ = w.cell? ⟨b, o', none⟩ :=
  World.cell?_setCell_other _ _ _ _ (by intro e; injection e with _ e; exact h e)

theorem IsPcg.set {w : World} {q s : Nat} (h : IsPcg w q s) (hi lo : Nat) (hlo : lo < 18446744073709551616) (n : Nat) :
    IsPcg (((w.drewN n).setCell ⟨q, 1, none⟩ (.int .u64 (lo : Int))).setCell ⟨q, 0, none⟩ (.int .u64 (hi : Int))) q (hi * 18446744073709551616 + lo) := by
  obtain ⟨h1, h2, h3, h4⟩ := h
  refine ⟨by simpa [World.setCell] using h1, ?_, ?_, fun j => ?_⟩
  · rw [show (hi * 18446744073709551616 + lo) / 18446744073709551616 = hi by omega]
    exact World.cell?_setCell_same _ _ _ ((cell_set_ne (by decide)).trans h2)
  · rw [show (hi * 18446744073709551616 + lo) % 18446744073709551616 = lo by omega]
    rw [cell_set_ne (by decide)]
    exact World.cell?_setCell_same _ _ _ h3
  · rw [World.frozen?_setCell, World.frozen?_setCell]; exact h4 j

set_option maxHeartbeats 1000000 in
theorem next_any (q hi lo : Nat) (w : World) (hlo : lo < 18446744073709551616) (h : IsPcg w q (hi * 18446744073709551616 + lo)) :
    Calls Tryf.prog 73 #[.pointer (some ⟨q, 0, none⟩)] w fun e w' => ∃ hi' lo', hi' < 18446744073709551616 ∧ lo' < 18446744073709551616 ∧ pnext (hi * 18446744073709551616 + lo) = hi' * 18446744073709551616 + lo' ∧
      e = .returned (.tuple #[.int .u64 ((hi' : Nat) : Int), .int .u64 ((lo' : Nat) : Int)]) ∧ IsPcg w' q (hi' * 18446744073709551616 + lo') ∧ Only q w w' := by
  have HP : Hid (IsPcg w q (hi * 18446744073709551616 + lo)) := h
  obtain ⟨hq, c0, c1, hf⟩ := h
  rw [show (hi * 18446744073709551616 + lo) / 18446744073709551616 = hi by omega] at c0
  rw [show (hi * 18446744073709551616 + lo) % 18446744073709551616 = lo by omega] at c1
  have HE : Hid (_ = _) := pnext_parts hi lo
  have f0 := hf 0
  have f1 := hf 1
  go_enter Tryf.func73, Tryf.ntmps73
  go_wp2_with fail
  refine (Tryf.mul64 lo 4865540595714422341 hlo (by decide) _).mono ?_
  rintro e w1 ⟨rfl, rfl⟩
  generalize lo * 4865540595714422341 / 18446744073709551616 = h1 at HE
  have hl1 : Hid (lo * 4865540595714422341 % 18446744073709551616 < 18446744073709551616) := Nat.mod_lt _ (by decide)
  generalize lo * 4865540595714422341 % 18446744073709551616 = l1 at HE hl1
  have a1 : ∀ w, (callFunc 74 #[.int .u64 (l1 : Int), .int .u64 1442695040888963407, .int .u64 0]).run Tryf.prog w = .ok (.value (.tuple #[.int .u64 (((l1 + 1442695040888963407) % 18446744073709551616 : Nat) : Int), .int .u64 (((l1 + 1442695040888963407) / 18446744073709551616 : Nat) : Int)])) w :=
    fun w => Tryf.add64 l1 1442695040888963407 0 (by omega) w
  have hc : Hid ((l1 + 1442695040888963407) / 18446744073709551616 ≤ 1) := by have := hl1.out; show _ ≤ _; omega
  have hl3 : Hid ((l1 + 1442695040888963407) % 18446744073709551616 < 18446744073709551616) := Nat.mod_lt _ (by decide)
  generalize (l1 + 1442695040888963407) % 18446744073709551616 = l3 at a1 HE hl3
  generalize (l1 + 1442695040888963407) / 18446744073709551616 = c at a1 HE hc
  go_wp2
  go_quiet (fail)
  go_wp2
  rw [wrap_next]
  have a2 : ∀ w, (callFunc 74 #[.int .u64 (((h1 + hi * 4865540595714422341 + lo * 2549297995355413924) % 18446744073709551616 : Nat) : Int), .int .u64 6364136223846793005, .int .u64 (c : Int)]).run Tryf.prog w = .ok (.value (.tuple #[.int .u64 ((((h1 + hi * 4865540595714422341 + lo * 2549297995355413924) % 18446744073709551616 + 6364136223846793005 + c) % 18446744073709551616 : Nat) : Int), .int .u64 ((((h1 + hi * 4865540595714422341 + lo * 2549297995355413924) % 18446744073709551616 + 6364136223846793005 + c) / 18446744073709551616 : Nat) : Int)])) w :=
    fun w => Tryf.add64 _ 6364136223846793005 c hc.out w
  have h4l : Hid (((h1 + hi * 4865540595714422341 + lo * 2549297995355413924) % 18446744073709551616 + 6364136223846793005 + c) % 18446744073709551616 < 18446744073709551616) := Nat.mod_lt _ (by decide)
  generalize ((h1 + hi * 4865540595714422341 + lo * 2549297995355413924) % 18446744073709551616 + 6364136223846793005 + c) % 18446744073709551616 = h4 at a2 HE h4l
  generalize ((h1 + hi * 4865540595714422341 + lo * 2549297995355413924) % 18446744073709551616 + 6364136223846793005 + c) / 18446744073709551616 = c4 at a2
  generalize (h1 + hi * 4865540595714422341 + lo * 2549297995355413924) % 18446744073709551616 = h2 at a2
  rw [a2]
  clear a1 a2
  go_wp2
  go_ret2
  exact ⟨h4, l3, h4l.out, hl3.out, HE.out, rfl, HP.out.set h4 l3 hl3.out _, (((Only.refl q w1).drewN _).set _ _).set _ _⟩

theorem pout_parts (hi lo : Nat) (hlo : lo < 18446744073709551616) : pout (hi * 18446744073709551616 + lo) = ((hi ^^^ hi / 4294967296) * 15750249268501108917 % 18446744073709551616 ^^^ (hi ^^^ hi / 4294967296) * 15750249268501108917 % 18446744073709551616 / 281474976710656) * (lo ||| 1) % 18446744073709551616 := by
  unfold pout
  rw [show (hi * 18446744073709551616 + lo) / 18446744073709551616 = hi by omega, show (hi * 18446744073709551616 + lo) % 18446744073709551616 = lo by omega]

theorem pout_wrap (hi lo : Nat) (hhi : hi < 18446744073709551616) (hlo : lo < 18446744073709551616) :
    IntKind.u64.wrap (bits .xor .u64 (IntKind.u64.wrap (bits .xor .u64 (hi : Int) ((hi : Int) / 4294967296) * 15750249268501108917)) (IntKind.u64.wrap (bits .xor .u64 (hi : Int) ((hi : Int) / 4294967296) * 15750249268501108917) / 281474976710656) * bits .or .u64 (lo : Int) 1) =
      ((pout (hi * 18446744073709551616 + lo) : Nat) : Int) := by
  have x1 : bits .xor .u64 (hi : Int) ((hi : Int) / 4294967296) = ((hi ^^^ hi / 4294967296 : Nat) : Int) := xorShift_u64 hi 4294967296 hhi
  have o1 : bits .or .u64 (lo : Int) 1 = ((lo ||| 1 : Nat) : Int) := bits_or_u64_nat lo 1 hlo (by decide)
  rw [pout_parts hi lo hlo, x1, o1]
  generalize hi ^^^ hi / 4294967296 = h1
  have m1 : IntKind.u64.wrap ((h1 : Int) * 15750249268501108917) = ((h1 * 15750249268501108917 % 18446744073709551616 : Nat) : Int) := by rw [IntKind.wrap_u64]; omega
  have b2 : h1 * 15750249268501108917 % 18446744073709551616 < 18446744073709551616 := Nat.mod_lt _ (by decide)
  rw [m1]
  generalize h1 * 15750249268501108917 % 18446744073709551616 = h2 at b2
  have x2 : bits .xor .u64 (h2 : Int) ((h2 : Int) / 281474976710656) = ((h2 ^^^ h2 / 281474976710656 : Nat) : Int) := xorShift_u64 h2 281474976710656 b2
  rw [x2, IntKind.wrap_u64, ← Int.natCast_mul]
  omega

set_option maxHeartbeats 1000000 in
theorem pcg_any (q hi lo : Nat) (w : World) (hlo : lo < 18446744073709551616) (h : IsPcg w q (hi * 18446744073709551616 + lo)) :
    Calls Tryf.prog 72 #[.pointer (some ⟨q, 0, none⟩)] w fun e w' => e = .returned (.int .u64 ((pout (pnext (hi * 18446744073709551616 + lo)) : Nat) : Int)) ∧ IsPcg w' q (pnext (hi * 18446744073709551616 + lo)) ∧ Only q w w' := by
  have HP : Hid (IsPcg w q (hi * 18446744073709551616 + lo)) := h
  clear h
  go_enter Tryf.func72, Tryf.ntmps72
  go_wp2_with fail
  refine (next_any q hi lo _ hlo HP.out).mono ?_
  rintro e w1 ⟨hi', lo', b1, b2, e3, rfl, h5, h6⟩
  have HR : Hid (IsPcg w1 q (hi' * 18446744073709551616 + lo') ∧ Only q w w1) := ⟨h5, h6⟩
  have H3 : Hid (_ = _) := e3
  clear h5 h6 e3
  go_wp2
  rw [pout_wrap hi' lo' b1 b2]
  go_ret
  rw [H3.out]
  exact ⟨rfl, HR.out⟩

theorem Only.cell {q : Nat} {w w' : World} (h : Only q w w') {p : Addr} (hp : p.block ≠ q) (hl : p.block < w.heap.size) : w'.cell? p = w.cell? p := World.cell?_of_block (w := w) (h.rest p.block hp hl)

/-- Block p holds a *Rand whose source is the generator in block q. -/
def IsRand (w : World) (p q s : Nat) : Prop :=
  p < w.heap.size ∧ p ≠ q ∧ w.cell? ⟨p, 0, none⟩ = some (.iface 92 (.pointer (some ⟨q, 0, none⟩))) ∧ IsPcg w q s

theorem IsRand.only {w w' : World} {p q s s' : Nat} (h : IsRand w p q s) (ho : Only q w w') (hp : IsPcg w' q s') : IsRand w' p q s' :=
  ⟨Nat.lt_of_lt_of_le h.1 ho.bel.size, h.2.1, (ho.cell (p := ⟨p, 0, none⟩) h.2.1 h.1).trans h.2.2.1, hp⟩

theorem method_u64 (a : Addr) (w : World) : (method 279 92 (.pointer (some a)) "Uint64").run Tryf.prog w = .ok (72, .pointer (some a)) w := by kernel_rfl

theorem pcg_all (q s : Nat) (w : World) (h : IsPcg w q s) :
    Calls Tryf.prog 72 #[.pointer (some ⟨q, 0, none⟩)] w fun e w' => e = .returned (.int .u64 ((pout (pnext s) : Nat) : Int)) ∧ IsPcg w' q (pnext s) ∧ Only q w w' := by
  obtain ⟨hi, lo, hlo, rfl⟩ : ∃ hi lo, lo < 18446744073709551616 ∧ s = hi * 18446744073709551616 + lo := ⟨s / 18446744073709551616, s % 18446744073709551616, by omega, by omega⟩
  exact pcg_any q hi lo w hlo h

set_option maxHeartbeats 1000000 in
theorem rand_any (p q s : Nat) (w : World) (h : IsRand w p q s) :
    Calls Tryf.prog 35 #[.pointer (some ⟨p, 0, none⟩)] w fun e w' => e = .returned (.int .u64 ((pout (pnext s) : Nat) : Int)) ∧ IsRand w' p q (pnext s) ∧ Only q w w' := by
  have HP : Hid (IsRand w p q s) := h
  have hm := method_u64
  obtain ⟨h1, h2, h3, h4⟩ := h
  clear h4
  go_enter Tryf.func35, Tryf.ntmps35
  go_wp2_with fail
  refine (pcg_all q s _ HP.out.2.2.2).mono ?_
  rintro e w1 ⟨rfl, h5, h6⟩
  have HR : Hid (IsRand w1 p q (pnext s) ∧ Only q w w1) := ⟨HP.out.only h6 h5, h6⟩
  clear h5 h6
  go_wp2
  go_ret
  exact ⟨rfl, HR.out⟩

theorem drawIn_succ (n f s : Nat) : drawIn n (f + 1) s = if pout (pnext s) * n % 18446744073709551616 < (18446744073709551616 - n) % n then drawIn n f (pnext s) else some (pout (pnext s) * n / 18446744073709551616, pnext s) := by
  rw [drawIn]

set_option maxHeartbeats 1000000 in
theorem uint64n_any (p q s n : Nat) (w : World) (h0 : 0 < n) (hn : n < 9223372036854775808) (h : IsRand w p q s) :
    Calls Tryf.prog 32 #[.pointer (some ⟨p, 0, none⟩), .int .u64 n] w fun e w' => e = .returned (.int .u64 (((draw n s).1 : Nat) : Int)) ∧ IsRand w' p q (draw n s).2 ∧ Only q w w' := by
  have HP : Hid (IsRand w p q s) := h
  clear h
  have band : ∀ x : Nat, x < 18446744073709551616 → bits .and .u64 (x : Int) ((n : Int) - 1) = ((x &&& (n - 1) : Nat) : Int) := fun x hx => by
    rw [show (n : Int) - 1 = ((n - 1 : Nat) : Int) by omega]
    exact bits_and_u64_nat x (n - 1) hx (by omega)
  by_cases hp : n &&& (n - 1) = 0
  · have hz : (bits .and .u64 (n : Int) ((n : Int) - 1) == 0) = true := by rw [band n (by omega), hp]; rfl
    have hb : Hid (_ = _) := band (pout (pnext s)) (pout_lt _)
    have hd : Hid (draw n s = (pout (pnext s) &&& (n - 1), pnext s)) := by show _ = _; rw [draw, if_pos hp]
    clear band
    go_enter Tryf.func32, Tryf.ntmps32
    go_wp2_with fail
    refine (rand_any p q s _ HP.out).mono ?_
    rintro e w1 ⟨rfl, h5, h6⟩
    have HR : Hid (IsRand w1 p q (pnext s) ∧ Only q w w1) := ⟨h5, h6⟩
    clear h5 h6
    go_wp2
    rw [hb.out]
    go_ret
    rw [hd.out]
    exact ⟨rfl, HR.out⟩
  · have hz : (bits .and .u64 (n : Int) ((n : Int) - 1) == 0) = false := by rw [band n (by omega)]; simp; exact hp
    have hd : Hid (drawIn n (2 ^ 128) s = some (draw n s)) := drawIn_draw n h0 (by omega) hp s
    generalize draw n s = r at hd
    generalize 2 ^ 128 = fuel at hd
    obtain ⟨f, rfl⟩ : ∃ f, fuel = f + 1 := by
      cases fuel with
      | zero => have := hd.out; simp [drawIn] at this
      | succ f => exact ⟨f, rfl⟩
    rw [drawIn_succ] at hd
    clear band
    go_enter Tryf.func32, Tryf.ntmps32
    go_wp2_with fail
    refine (rand_any p q s _ HP.out).mono ?_
    rintro e w1 ⟨rfl, h5, h6⟩
    have HR : Hid (IsRand w1 p q (pnext s) ∧ Only q w w1) := ⟨h5, h6⟩
    clear h5 h6
    have hx : Hid (pout (pnext s) < 18446744073709551616) := pout_lt _
    generalize pout (pnext s) = x at hd hx
    generalize pnext s = s1 at hd HR
    clear HP
    go_wp2_with fail
    refine (Tryf.mul64 x n hx.out (by omega) _).mono ?_
    rintro e w2 ⟨rfl, rfl⟩
    have th : (IntKind.u64.wrap (-(n : Int))).tmod (n : Int) = (((18446744073709551616 - n) % n : Nat) : Int) := by
      rw [IntKind.wrap_u64, show (-(n : Int)) % 18446744073709551616 = ((18446744073709551616 - n : Nat) : Int) by omega]
      rfl
    have ht : Hid ((18446744073709551616 - n) % n < n) := Nat.mod_lt _ h0
    have hE : Hid (∀ g s, drawIn n (g + 1) s = if pout (pnext s) * n % 18446744073709551616 < (18446744073709551616 - n) % n then drawIn n g (pnext s) else some (pout (pnext s) * n / 18446744073709551616, pnext s)) := drawIn_succ n
    generalize (18446744073709551616 - n) % n = t at th ht hE hd
    by_cases hlt : x * n % 18446744073709551616 < n
    · generalize x * n % 18446744073709551616 = lo at hd hlt
      generalize x * n / 18446744073709551616 = hi at hd
      go_wp2
      clear th hx hlt
      go_loopg [5, 6] f (fun g a b wr => ∃ hi lo s1 : Nat, a = .int .u64 (hi : Int) ∧ b = .int .u64 (lo : Int) ∧ IsRand wr p q s1 ∧ Only q w wr ∧ (if lo < t then drawIn n g s1 else some (hi, s1)) = some r)
      case atStart => exact ⟨hi, lo, s1, rfl, rfl, HR.out.1, HR.out.2, hd.out⟩
      case round =>
        clear hd HR
        obtain ⟨hi, lo, s1, rfl, rfl, hR, hO, hD⟩ := hrel
        have HR : Hid (IsRand wr p q s1 ∧ Only q w wr) := ⟨hR, hO⟩
        clear hR hO
        by_cases hlt : lo < t
        · rw [if_pos hlt] at hD
          obtain ⟨g, rfl⟩ : ∃ g, gk = g + 1 := by
            cases gk with
            | zero => simp [drawIn] at hD
            | succ g => exact ⟨g, rfl⟩
          rw [hE.out] at hD
          have HD : Hid (_ = _) := hD
          clear hD
          go_wp2_with fail
          refine (rand_any p q s1 _ HR.out.1).mono ?_
          rintro e w3 ⟨rfl, h5, h6⟩
          have HR3 : Hid (IsRand w3 p q (pnext s1) ∧ Only q w w3) := ⟨h5, HR.out.2.trans h6⟩
          clear h5 h6
          have hx : Hid (pout (pnext s1) < 18446744073709551616) := pout_lt _
          generalize pout (pnext s1) = x at HD hx
          generalize pnext s1 = s2 at HD HR3
          go_wp2_with fail
          refine (Tryf.mul64 x n hx.out (by omega) _).mono ?_
          rintro e w4 ⟨rfl, rfl⟩
          generalize x * n % 18446744073709551616 = lo3 at HD
          generalize x * n / 18446744073709551616 = hi3 at HD
          go_wp2
          go_roundg g
          case rel => exact ⟨hi3, lo3, s2, rfl, rfl, HR3.out.1, HR3.out.2, HD.out⟩
          case measure => omega
        · rw [if_neg hlt] at hD
          obtain rfl : (hi, s1) = r := Option.some.inj hD
          clear hD
          go_wp2
          go_ret
          exact ⟨rfl, HR.out⟩
    · have hd' := hd.out
      rw [if_neg (by have := ht.out; omega)] at hd'
      obtain rfl : _ = r := Option.some.inj hd'
      clear hd' hd
      generalize x * n % 18446744073709551616 = lo at hlt
      go_wp2
      go_ret
      exact ⟨rfl, HR.out⟩
end Go.Proofs.Qxb6608650aFmt
